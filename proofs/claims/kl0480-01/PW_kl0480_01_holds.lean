import PyProof.Rows.All
import Wide.All
import OpenK.AllK
import Wide.FinOn
import PyProof.ToksMono
import PyProof.StrReplace2
import KE.KListLetter
import PyProof.SeqRoads2
import PyProof.WalkInts
import PyProof.Rows.SumAny
import PyProof.Rows.RuleN_abs
import PyProof.Rows.StrBin
import PyProof.Rows.StrInSeq3
import PyProof.CompFree
import PyProof.WalksMore
import PyProof.Rows.SortWalkRead
import PyProof.InstLoad
import PyProof.InstStoreFacts
import PyProof.ObjNew
import PyProof.ListStr
import PyProof.SliceMore
import PyProof.StrBlock
import PyProof.Rows.StrRules
import KE.KDictAnyGet
import PyProof.Rows.StrWeight2
import PyProof.MaxThree
import PyProof.Rows.FloatOps
import PyProof.AutoFloatOps
import PyProof.AutoIntOps
import PyProof.Conv_int_float
import PyProof.TupleOfSeq
import KE.KTab
import KE.KParD
import PyProof.DictWalks
import PyProof.DictRoads
import PyProof.EqAt
import PyProof.Rows.DictMade
import PyProof.Rows.RuleIs2
import PyProof.Rows.TupSub
import PyProof.StrWalks
import PyProof.StrBlockH
import PyProof.StrLawsOcc
import PyProof.Rows.StrItems
import PyProof.StrLawsTight
import PyProof.Rows.StrCountLaw
import Lean
import PySem.Challenge.RW_kl0480_01
set_option Elab.async false
set_option maxRecDepth 100000
set_option linter.all false
set_option genInjectivity false
set_option tactic.hygienic false
set_option genSizeOf false
set_option bootstrap.genMatcherCode false
namespace Mine.Internal
open PySem PySem.Spec PySem.Calls PyProof.Rows PySem.W
noncomputable abbrev pw : Program := PySem.Challenge.pw_kl0480_01
noncomputable def stAt (i : Nat) : Stmt := (pw.main.body[i]?).getD (.Pass default)
noncomputable def mtAt (i : Nat) : Stmt := match stAt 19 with
  | .ClassDef _ _ _ body _ _ _ _ _ _ _ => (body[i]?).getD (.Pass default)
  | _ => .Pass default
noncomputable def fnO (st : Stmt) (ql md : Str) (mt : Tok) (c : Addr) : Obj := match st with
  | .FunctionDef name params body _ _ _ scope _ _ _ => { cls := .type "function", data := .func { name, qualname := ql, params, body := .stmts body, scope, globals := mainGlobals, closure := [], defaults := .none, kwdefaults := .none, doc := .none, pyModule := .str md mt, annotations := none, code := .ref c, closureTuple := .none, builtins := builtinsNs } }
  | _ => { cls := .none, data := .plain }
noncomputable def de (P : Params) (x : Str) (t : Tok) (v : Value) : DictEntry := { hash := PyData.keyHash P x, key := .str x t, val := v }
noncomputable def df (k : Nat) (t : Tok) (x : Str) (u : Tok) : DictEntry := { hash := (k : Int), key := .int (k : Int) t, val := .str x u }
noncomputable def co (nm ql : Str) (t : Nat) (ln ac fl : Int) (r8 : Addr) (n10 : Int) (r11 : Addr) (v12 v13 v14 : Value) (r15 : Addr) (n16 n17 : Int) (t18 : Nat) : Obj :=
  { cls := .type "code", data := .fields #[.str nm t, .str ql (t + 1), .str "/claim/cut.py" (t + 2), .int ln 0, .int ac 0, .int 0 0, .int 0 0, .int fl 0, .ref r8, .bool true, .int n10 0, .ref r11, v12, v13, v14, .ref r15, .int n16 0, .int n17 0, .str "/claim/cut.py" t18] }
noncomputable def KK (P : Params) : Frag :=
  [(2, { cls := .none, data := .dict #[] }),
   (3, { cls := .type "dict", data := .dict #[de P "__name__" 165 (.str "law_kl0480_01" 463), de P "__doc__" 166 (.none), de P "__package__" 167 (.none), de P "__loader__" 168 (.builtin "__main__.__loader__#opaque"), de P "__spec__" 169 (.none), de P "__annotations__" 170 (.ref 6), de P "__builtins__" 171 (.ref 4), de P "__file__" 173 (.str "/claim/cut.py" 172), de P "__cached__" 174 (.none), de P "_DIV_LIMIT" 190 (.int 4000 189), de P "_div2n1n" 207 (.ref 21), de P "_div3n2n" 221 (.ref 28), de P "_int2digits" 232 (.ref 35), de P "_digits2int" 243 (.ref 42), de P "_divmod_pos" 258 (.ref 49), de P "int_divmod" 268 (.ref 56), de P "rgb_to_hls" 289 (.ref 63), de P "rgb_to_hsv" 307 (.ref 70), de P "hsv_to_rgb" 321 (.ref 77), de P "COMPILER_FLAG_NAMES" 354 (.ref 78), de P "pretty_flags" 364 (.ref 85), de P "_Unknown" 391 (.ref 102), de P "UNKNOWN" 392 (.ref 108), de P "_get_name_info" 402 (.ref 115), de P "_netrclex" 462 (.ref 153), de P "_law_lexer" 473 (.ref 164), de P "_law_hues" 484 (.ref 171), de P "_law_told" 505 (.ref 178), de P "_law_pass" 525 (.ref 185), de P "_law_meet" 531 (.ref 190), de P "law" 537 (.ref 195)] 31 }),
   (20, co "_div2n1n" "_div2n1n" 191 3 3 3 15 181 16 (.none) (.ref 17) (.ref 18) 19 205 3 206),
   (21, fnO (stAt 2) "_div2n1n" "cpy313._pylong" 187 20),
   (34, co "_int2digits" "_int2digits" 222 29 2 3 29 181 30 (.none) (.ref 31) (.ref 32) 33 230 29 231),
   (35, fnO (stAt 4) "_int2digits" "cpy313._pylong" 187 34),
   (41, co "_digits2int" "_digits2int" 233 45 2 3 36 181 37 (.none) (.ref 38) (.ref 39) 40 241 45 242),
   (42, fnO (stAt 5) "_digits2int" "cpy313._pylong" 187 41),
   (48, co "_divmod_pos" "_divmod_pos" 244 54 2 3 43 181 44 (.none) (.ref 45) (.ref 46) 47 256 54 257),
   (49, fnO (stAt 6) "_divmod_pos" "cpy313._pylong" 187 48),
   (55, co "int_divmod" "int_divmod" 259 65 2 3 50 181 51 (.none) (.ref 52) (.ref 53) 54 266 65 267),
   (56, fnO (stAt 7) "int_divmod" "cpy313._pylong" 187 55),
   (62, co "rgb_to_hls" "rgb_to_hls" 271 77 3 3 57 181 58 (.none) (.ref 59) (.ref 60) 61 287 77 288),
   (63, fnO (stAt 9) "rgb_to_hls" "cpy313.colorsys" 269 62),
   (69, co "rgb_to_hsv" "rgb_to_hsv" 290 100 3 3 64 181 65 (.none) (.ref 66) (.ref 67) 68 305 100 306),
   (70, fnO (stAt 10) "rgb_to_hsv" "cpy313.colorsys" 269 69),
   (76, co "hsv_to_rgb" "hsv_to_rgb" 308 119 3 3 71 181 72 (.none) (.ref 73) (.ref 74) 75 319 119 320),
   (77, fnO (stAt 11) "hsv_to_rgb" "cpy313.colorsys" 269 76),
   (78, { cls := .type "dict", data := .dict #[df 1 324 "OPTIMIZED" 325, df 2 326 "NEWLOCALS" 327, df 4 328 "VARARGS" 329, df 8 330 "VARKEYWORDS" 331, df 16 332 "NESTED" 333, df 32 334 "GENERATOR" 335, df 64 336 "NOFREE" 337, df 128 338 "COROUTINE" 339, df 256 340 "ITERABLE_COROUTINE" 341, df 512 342 "ASYNC_GENERATOR" 343] 10 }),
   (84, co "pretty_flags" "pretty_flags" 355 142 1 3 79 181 80 (.none) (.ref 81) (.ref 82) 83 362 142 363),
   (85, fnO (stAt 14) "pretty_flags" "cpy313.dis" 322 84),
   (114, co "_get_name_info" "_get_name_info" 393 159 2 11 109 181 110 (.none) (.ref 111) (.ref 112) 113 400 159 401),
   (115, fnO (stAt 17) "_get_name_info" "cpy313.dis" 322 114),
   (128, co "__init__" "_netrclex.__init__" 417 168 2 3 123 181 124 (.none) (.ref 125) (.ref 126) 127 422 168 423),
   (129, fnO (mtAt 0) "_netrclex.__init__" "cpy313.netrc" 403 128),
   (135, co "_read_char" "_netrclex._read_char" 425 174 1 3 130 181 131 (.none) (.ref 132) (.ref 133) 134 430 174 431),
   (136, fnO (mtAt 1) "_netrclex._read_char" "cpy313.netrc" 403 135),
   (142, co "get_token" "_netrclex.get_token" 433 180 1 3 137 181 138 (.none) (.ref 139) (.ref 140) 141 440 180 441),
   (143, fnO (mtAt 2) "_netrclex.get_token" "cpy313.netrc" 403 142),
   (149, co "push_token" "_netrclex.push_token" 443 207 2 3 144 181 145 (.none) (.ref 146) (.ref 147) 148 448 207 449),
   (150, fnO (mtAt 3) "_netrclex.push_token" "cpy313.netrc" 403 149),
   (152, { cls := .type "dict", data := .dict #[de P "__module__" 412 (.str "cpy313.netrc" 403), de P "__firstlineno__" 416 (.int 166 415), de P "__init__" 424 (.ref 129), de P "_read_char" 432 (.ref 136), de P "get_token" 442 (.ref 143), de P "push_token" 450 (.ref 150), de P "__static_attributes__" 455 (.ref 151), de P "__dict__" 457 (.ref 154), de P "__weakref__" 459 (.ref 155), de P "__doc__" 460 (.none)] 4 }),
   (153, { cls := .type "type", data := .cls { name := "_netrclex", bases := [.type "object"], mro := [.ref 153, .type "object"], ns := 152, qualname := "_netrclex" }, slots := #[none, none, some (.str "_netrclex" 405), some (.str "_netrclex" 413), some (.builtin "object.__new__"), some (.bool true)] }),
   (163, co "_law_lexer" "_law_lexer" 465 210 1 3 158 181 159 (.none) (.ref 160) (.ref 161) 162 471 210 472),
   (164, fnO (stAt 21) "_law_lexer" "law_kl0480_01" 463 163),
   (170, co "_law_hues" "_law_hues" 474 214 2 3 165 181 166 (.none) (.ref 167) (.ref 168) 169 482 214 483),
   (171, fnO (stAt 22) "_law_hues" "law_kl0480_01" 463 170),
   (177, co "_law_told" "_law_told" 485 220 3 3 172 181 173 (.none) (.ref 174) (.ref 175) 176 503 220 504),
   (178, fnO (stAt 23) "_law_told" "law_kl0480_01" 463 177),
   (184, co "_law_pass" "_law_pass" 506 230 5 3 179 181 180 (.none) (.ref 181) (.ref 182) 183 523 230 524),
   (185, fnO (stAt 24) "_law_pass" "law_kl0480_01" 463 184),
   (189, co "_law_meet" "_law_meet" 526 250 2 3 186 181 187 (.none) (.none) (.none) 188 529 250 530),
   (190, fnO (stAt 25) "_law_meet" "law_kl0480_01" 463 189),
   (194, co "law" "law" 532 261 1 3 191 181 192 (.none) (.none) (.none) 193 535 261 536),
   (195, fnO (stAt 26) "law" "law_kl0480_01" 463 194)]
noncomputable def hk : Hook := kmHook KK [2, 3, 20, 21, 34, 35, 41, 42, 48, 49, 55, 56, 62, 63, 69, 70, 76, 77, 78, 84, 85, 114, 115, 128, 129, 135, 136, 142, 143, 149, 150, 152, 153, 163, 164, 170, 171, 177, 178, 184, 185, 189, 190, 194, 195] (fun ι => by rfl) [37, 30, 173, 159]
noncomputable def qv : Program := view pw [26]
noncomputable def lo : List Str := ["_DIV_LIMIT", "_div2n1n", "_div3n2n", "_int2digits", "_digits2int", "_divmod_pos", "int_divmod", "rgb_to_hls", "rgb_to_hsv", "hsv_to_rgb", "COMPILER_FLAG_NAMES", "pretty_flags", "_Unknown", "UNKNOWN", "_get_name_info", "_netrclex", "_law_lexer", "_law_hues", "_law_told", "_law_pass", "_law_meet"]
noncomputable abbrev xt (s : Shared) : Bool := xlAt qv [] s && recOk [] s
theorem left_boot {p q : Program} {loose : List Str} {Xt : Shared → Bool} {α : Type} {Yf : Shared → α} {Ya : World → α} {N : Nat} (e : opening p = plainProg p.main.scope.names) (hN : Nat.ble 600 N = true) (f : ∀ s, fenceModules? p s = some s)
    (h : ∀ (w : World) (os : OsState), (topFrom treeTable p w N ⟨boot_heap w.params, Array.mk [], boot_drawn, boot_toks, os⟩).map (fun s => (openSeen q loose (importedModules p.main.body) Xt true s, Yf s)) = some (openGood q loose, Ya w)) : LeftO p q loose Xt Yf Ya N := fun w => by
  obtain ⟨s₀, h0, h1⟩ := Option.map_eq_some_iff.mp (boot_open e hN f w)
  unfold openEnds
  rw [h0]
  obtain ⟨hp, g, d, t, os⟩ := s₀
  simp only [Prod.mk.injEq] at h1
  obtain ⟨rfl, rfl, rfl, rfl⟩ := h1
  exact h w os
noncomputable def topQ (p : Program) (w : World) (N : Nat) (s₀ : Shared) : Option Shared :=
  match s₀.heap.isNs mainGlobals && s₀.gens.size == 0 with
  | true => (Fast.tw14082659384304107361 Fast.tw14364793385576792824 p w s₀.heap.objs.size (s₀.heap.nsMap mainGlobals "__annotations__") N s₀ (topStub p)).bind fun s₁ => match staticsOk (importedModules p.main.body) s₀.heap s₁.heap && namesBound p s₁.heap && gensDone s₁ && laidKept s₀.heap s₁.heap with
      | true => some s₁
      | false => none
  | false => none
theorem topQ_eq : @topFrom treeTable = topQ := by
  funext p w N s₀
  unfold topFrom topQ
  rw [Fast.te14082659384304107361, Fast.te14364793385576792824]
  rfl
noncomputable def Ran (w : World) (os : OsState) : Prop := (topQ pw w 2894 ⟨boot_heap w.params, Array.mk [], boot_drawn, boot_toks, os⟩).map (fun s => (openSeen qv lo (importedModules pw.main.body) xt true s, hk.obs s)) = some (openGood qv lo, hk.val w)
theorem ran0 (w : World) : ∀ os, Ran (w.withFollow "special-get-raises" false) os := fun os => by unfold Ran; kernel_rfl
theorem ran1 (w : World) : ∀ os, Ran (w.withFollow "special-get-raises" true) os := fun os => by unfold Ran; kernel_rfl
theorem left : LeftO pw qv lo xt hk.obs hk.val 2894 :=
  left_boot rfl rfl (fun s => rfl) fun w os => by
    rw [topQ_eq]
    exact byRow2 "special-get-raises" (P := fun w => ∀ os, Ran w os) ran0 ran1 w os
inductive It where
  | ob (o : Obj)
  | ns (m : List (Str × Option Value))
  | nf (f : Str → Option Value)
  | ls (vs : List Value)
  | fn (o : Obj) (cd : Value) (q : Str)
  | ce (v : Option Value)
  | fl (cls : String) (vs : List Value)
  | pr (P : Obj → Prop)
noncomputable abbrev Led := List (Addr × It)
noncomputable def isCodeRec (h : Heap) (a : Addr) : Prop := ∃ (o : Obj) (vs : Array Value) (q : Str) (t : Tok), h.get? a = some o ∧ o.data = .fields vs ∧ vs[1]? = some (.str q t) ∧ q ≠ ""
noncomputable def It.At (h : Heap) (a : Addr) : It → Prop
  | .ob o => h.get? a = some o
  | .ns m => h.Ns a (fun x => (m.lookup x).join) ∧ (m.map (·.1)).Nodup
  | .nf f => h.Ns a f
  | .ls vs => h.PlainList a vs.toArray
  | .fn o cd q => h.get? a = some o ∧ h.CodeRec cd q ∧ q ≠ ""
  | .ce v => h.IsCell a v
  | .fl cls vs => ∃ o, h.get? a = some o ∧ o.cls = .type cls ∧ o.data = .fields vs.toArray
  | .pr P => ∃ o, h.get? a = some o ∧ P o ∧ ∀ vs, o.data ≠ .fields vs
noncomputable def It.soft : It → Bool
  | .ob o => match o.data with
    | .fields vs => match (vs[1]? : Option Value) with
      | some (.str q _) => q == ""
      | _ => true
    | _ => true
  | .ns _ => true
  | .nf _ => true
  | .ls _ => true
  | .fn o _ _ => match o.data with
    | .func _ => true
    | _ => false
  | .ce _ => true
  | .fl _ vs => match (vs[1]? : Option Value) with
    | some (.str q _) => q == ""
    | _ => true
  | .pr _ => true
structure TabRec where
  c : Addr
  P : Addr
  q : Str
structure Bg where
  prog : Program
  w : World
  K : Frag
  h0 : Heap
  os : OsState
  mg : Str → Option Value
  mb : Str → Option Value
  tabs : List TabRec
  inK : K.In h0
  g : h0.Ns mainGlobals mg
  b : h0.Ns builtinsNs mb
  bb : ∀ x : Str, x ≠ "__name__" → mb x = bootBuiltins x
  lim : h0.NoLimit
  dig : ∃ mc, h0.Ns cStatics mc ∧ mc "sys.int_max_str_digits" = none
  bm : ∃ bm ob, mg "__builtins__" = some (.ref bm) ∧ bm ≠ builtinsNs ∧ h0.get? bm = some ob ∧ ob.cls = .type "module" ∧ ob.dict = some builtinsNs ∧ ob.data = .plain
  hd : ∀ t ∈ tabs, CodeHd h0 t.c t.P
  tab : ∀ t ∈ tabs, h0.get? t.P = some (tabObj #[])
  tnd : ∀ t ∈ tabs, ∀ t' ∈ tabs, t.P = t'.P → t = t'
  tq : ∀ t ∈ tabs, t.q ≠ ""
  nb : NoneBooked h0
noncomputable def TabOk (h : Heap) (t : TabRec) : Prop :=
  ∃ ps, h.get? t.P = some (tabObj ps) ∧ TriplesOk ps.toList ∧ ∀ pos cv, codeAmong pos ps.toList = some cv → h.CodeRec cv t.q
structure St (B : Bg) (L : Led) (s : Shared) : Prop where
  keep : ∀ a o, B.h0.get? a = some o → (∀ t ∈ B.tabs, a ≠ t.P) → s.heap.get? a = some o
  tab : ∀ t ∈ B.tabs, TabOk s.heap t
  its : ∀ p ∈ L, p.2.At s.heap p.1
  nd : (L.map (·.1)).Nodup
  lo : ∀ p ∈ L, B.h0.get? p.1 = none
  size : 1 ≤ s.toks
  old : OldK B.h0 s.heap
  gens : s.gens = #[]
  os : s.os = B.os
theorem It.At.lt {h : Heap} {a : Addr} {it : It} (x : it.At h a) : a < h.objs.size := by
  cases it with
  | ob o => exact Heap.lt_size x
  | ns m => exact x.1.lt
  | nf f => exact Heap.Ns.lt x
  | ls vs => obtain ⟨n, e⟩ := x; exact Heap.lt_size e
  | fn o cd q => exact Heap.lt_size x.1
  | ce v => obtain ⟨o, e, r⟩ := x; exact Heap.lt_size e
  | fl c v => obtain ⟨o, e, r⟩ := x; exact Heap.lt_size e
  | pr P => obtain ⟨o, e, r⟩ := x; exact Heap.lt_size e
theorem It.At.keeps {h h' : Heap} {a : Addr} {it : It} (x : it.At h a) (k : ∀ b o, h.get? b = some o → h'.get? b = some o) : it.At h' a := by
  cases it with
  | ob o => exact k _ _ x
  | ns m => exact ⟨x.1.keeps k, x.2⟩
  | nf f => exact Heap.Ns.keeps x k
  | ls vs => obtain ⟨n, e⟩ := x; exact ⟨n, k _ _ e⟩
  | fn o cd q => exact ⟨k _ _ x.1, x.2.1.keeps k, x.2.2⟩
  | ce v => obtain ⟨o, e, r⟩ := x; exact ⟨o, k _ _ e, r⟩
  | fl c v => obtain ⟨o, e, r⟩ := x; exact ⟨o, k _ _ e, r⟩
  | pr P => obtain ⟨o, e, r⟩ := x; exact ⟨o, k _ _ e, r⟩
theorem codeRec_but {h h' : Heap} {x : Addr} {cd : Value} {q : Str} (r : h.CodeRec cd q) (hq : q ≠ "") (hx : ¬ isCodeRec h x) (k : ∀ b o, b ≠ x → h.get? b = some o → h'.get? b = some o) : h'.CodeRec cd q := by
  obtain ⟨c, o, vs, t, e, ho, hd, hv⟩ := r
  refine ⟨c, o, vs, t, e, k _ _ (fun z => hx ?_) ho, hd, hv⟩
  subst z
  exact ⟨o, vs, q, t, ho, hd, hv, hq⟩
theorem It.At.but {h h' : Heap} {a x : Addr} {it : It} (y : it.At h a) (hx : ¬ isCodeRec h x) (k : ∀ b o, b ≠ x → h.get? b = some o → h'.get? b = some o) (ne : a ≠ x) : it.At h' a := by
  cases it with
  | ob o => exact k _ _ ne y
  | ns m =>
    obtain ⟨⟨o, es, ep, ho, r⟩, nd⟩ := y
    exact ⟨⟨o, es, ep, k _ _ ne ho, r⟩, nd⟩
  | nf f =>
    obtain ⟨o, es, ep, ho, r⟩ := y
    exact ⟨o, es, ep, k _ _ ne ho, r⟩
  | ls vs => obtain ⟨n, e⟩ := y; exact ⟨n, k _ _ ne e⟩
  | fn o cd q => exact ⟨k _ _ ne y.1, codeRec_but y.2.1 y.2.2 hx k, y.2.2⟩
  | ce v => obtain ⟨o, e, r⟩ := y; exact ⟨o, k _ _ ne e, r⟩
  | fl c v => obtain ⟨o, e, r⟩ := y; exact ⟨o, k _ _ ne e, r⟩
  | pr P => obtain ⟨o, e, r⟩ := y; exact ⟨o, k _ _ ne e, r⟩
theorem It.At.soft {h : Heap} {a : Addr} {it : It} (y : it.At h a) (hs : it.soft = true) : ¬ isCodeRec h a := by
  rintro ⟨o, vs, q, t, ho, hd, hv, hq⟩
  cases it with
  | ob o' =>
    have : o' = o := Option.some.inj (y.symm.trans ho)
    subst this
    simp [It.soft, hd, hv] at hs
    exact hq hs
  | ns m =>
    obtain ⟨⟨o', es, ep, ho', hd', r⟩, nd⟩ := y
    have : o' = o := Option.some.inj (ho'.symm.trans ho)
    subst this
    rw [hd] at hd'; cases hd'
  | nf f =>
    obtain ⟨o', es, ep, ho', hd', r⟩ := y
    have : o' = o := Option.some.inj (ho'.symm.trans ho)
    subst this
    rw [hd] at hd'; cases hd'
  | ls vs' =>
    obtain ⟨n, e⟩ := y
    have := Option.some.inj (e.symm.trans ho)
    subst this
    cases hd
  | fn o' cd q' =>
    have : o' = o := Option.some.inj (y.1.symm.trans ho)
    subst this
    simp [It.soft, hd] at hs
  | ce v =>
    obtain ⟨o', e, r⟩ := y
    have := Option.some.inj (e.symm.trans ho)
    subst this
    rw [hd] at r; cases r
  | fl c v =>
    obtain ⟨o', e, _, r⟩ := y
    have := Option.some.inj (e.symm.trans ho)
    subst this
    rw [hd] at r; cases r
    have hv' : v[1]? = some (.str q t) := by simpa using hv
    simp [It.soft, hv'] at hs
    exact hq hs
  | pr P =>
    obtain ⟨o', e, _, r⟩ := y
    have := Option.some.inj (e.symm.trans ho)
    subst this
    exact r _ hd
inductive Rem (p : Addr × It) : Led → Led → Prop
  | head {r} : Rem p (p :: r) r
  | tail {q r r'} : Rem p r r' → Rem p (q :: r) (q :: r')
theorem Rem.perm {p : Addr × It} {L L' : Led} (h : Rem p L L') : List.Perm L (p :: L') := by
  induction h with
  | head => exact List.Perm.refl _
  | tail _ ih => exact (List.Perm.cons _ ih).trans (List.Perm.swap ..)
inductive Pick : Led → Led → Prop
  | nil {r} : Pick [] r
  | refl {r} : Pick r r
  | cons {p l r r'} : Rem p r r' → Pick l r' → Pick (p :: l) r
  | skip {l q r} : Pick l r → Pick l (q :: r)
section
variable {B : Bg} {L L' : Led} {s : Shared}
theorem St.perm (S : St B L s) (h : List.Perm L L') : St B L' s :=
  ⟨S.keep, S.tab, fun p hp => S.its p (h.mem_iff.mpr hp), (h.map _).nodup_iff.mp S.nd, fun p hp => S.lo p (h.mem_iff.mpr hp), S.size, S.old, S.gens, S.os⟩
theorem St.sub (S : St B L s) (h : List.Sublist L' L) : St B L' s :=
  ⟨S.keep, S.tab, fun p hp => S.its p (h.subset hp), S.nd.sublist (h.map _), fun p hp => S.lo p (h.subset hp), S.size, S.old, S.gens, S.os⟩
theorem Pick.perm_sub {l r : Led} (h : Pick l r) : ∃ r', List.Perm r r' ∧ List.Sublist l r' := by
  induction h with
  | nil => exact ⟨_, .refl _, List.nil_sublist _⟩
  | refl => exact ⟨_, .refl _, List.Sublist.refl _⟩
  | cons hr _ ih =>
    obtain ⟨r', h1, h2⟩ := ih
    exact ⟨_ :: r', hr.perm.trans (List.Perm.cons _ h1), h2.cons_cons _⟩
  | skip _ ih =>
    obtain ⟨r', h1, h2⟩ := ih
    exact ⟨_ :: r', List.Perm.cons _ h1, h2.cons _⟩
theorem St.pick (S : St B L s) (h : Pick L' L) : St B L' s := by
  obtain ⟨r', h1, h2⟩ := h.perm_sub
  exact (S.perm h1).sub h2
theorem St.rem {p : Addr × It} (S : St B L s) (h : Rem p L L') : St B (p :: L') s := S.perm h.perm
theorem St.toks {t : Nat} (S : St B L s) (ht : 1 ≤ t) : St B L { s with toks := t } := ⟨S.keep, S.tab, S.its, S.nd, S.lo, ht, S.old, S.gens, S.os⟩
theorem St.tp {t : Nat} (S : St B L s) : St B L { s with toks := t + 1 } := S.toks (Nat.succ_le_succ (Nat.zero_le _))
theorem St.up {α : Type} {M : Model} {A : Around} {t : Sem α} {Q : α → Shared → Prop} {E : Value → Shared → Prop} (S : St B L s) (h : wpAny M A t (fun a s' => 1 ≤ s'.toks → Q a s') E s) : wpAny M A t Q E s :=
  wpAny_mono (wpAny_toks_of S.size h) (fun ι ι x => x.2 x.1) fun ι ι x => x.2
theorem TabOk.keeps {h h' : Heap} {t : TabRec} (x : TabOk h t) (k : ∀ b o, h.get? b = some o → h'.get? b = some o) : TabOk h' t :=
  let ⟨ps, e, ht, hc⟩ := x
  ⟨ps, k _ _ e, ht, fun pos cv q => (hc pos cv q).keeps k⟩
theorem St.grow {h' : Heap} (S : St B L s) (k : ∀ b o, s.heap.get? b = some o → h'.get? b = some o) (hz : s.heap.objs.size ≤ h'.objs.size) : St B L { s with heap := h' } :=
  ⟨fun a o e n => k _ _ (S.keep a o e n), fun t ht => (S.tab t ht).keeps k, fun p hp => (S.its p hp).keeps k, S.nd, S.lo, S.size, S.old.step_keeps k, S.gens, S.os⟩
theorem St.grow2 {h' : Heap} (S : St B L s) (k : ∀ b o, s.heap.get? b = some o → h'.get? b = some o) (hne : L ≠ []) : St B L { s with heap := h' } := by
  refine ⟨fun a o e n => k _ _ (S.keep a o e n), fun t ht => (S.tab t ht).keeps k, fun p hp => (S.its p hp).keeps k, S.nd, S.lo, S.size, S.old.step_keeps k, S.gens, S.os⟩
theorem St.old_none {a : Addr} (S : St B L s) (h : s.heap.get? a = none) : B.h0.get? a = none := by
  cases e : B.h0.get? a with
  | none => rfl
  | some o =>
    obtain ⟨o', e'⟩ := S.old.there _ _ e
    rw [h] at e'; cases e'
theorem It.At.present {h : Heap} {a : Addr} {it : It} (x : it.At h a) : h.get? a ≠ none := by
  cases it with
  | ob o => intro e; rw [show h.get? a = some o from x] at e; cases e
  | ns m => obtain ⟨⟨o, es, ep, q, _⟩, _⟩ := x; intro e; rw [q] at e; cases e
  | nf f => obtain ⟨o, es, ep, q, _⟩ := x; intro e; rw [q] at e; cases e
  | ls vs => obtain ⟨n, q⟩ := x; intro e; rw [q] at e; cases e
  | fn o cd q => intro e; rw [x.1] at e; cases e
  | ce v => obtain ⟨o, q, r⟩ := x; intro e; rw [q] at e; cases e
  | fl c v => obtain ⟨o, q, r⟩ := x; intro e; rw [q] at e; cases e
  | pr P => obtain ⟨o, q, r⟩ := x; intro e; rw [q] at e; cases e
theorem St.addN {h' : Heap} {a : Addr} {it : It} (S : St B L s) (k : ∀ b o, s.heap.get? b = some o → h'.get? b = some o) (ha : s.heap.get? a = none) (hi : it.At h' a) :
    St B ((a, it) :: L) { s with heap := h' } := by
  refine ⟨fun a o e n => k _ _ (S.keep a o e n), fun t ht => (S.tab t ht).keeps k, fun p hp => ?_, ?_, fun p hp => ?_, S.size, S.old.step_keeps k, S.gens, S.os⟩
  · rcases List.mem_cons.mp hp with rfl | hp
    · exact hi
    · exact (S.its p hp).keeps k
  · rw [List.map_cons]
    refine List.nodup_cons.mpr ⟨fun hm => ?_, S.nd⟩
    obtain ⟨p, hp, e⟩ := List.mem_map.mp hm
    have e' : p.1 = a := e
    exact (S.its p hp).present (e' ▸ ha)
  · rcases List.mem_cons.mp hp with rfl | hp
    · exact S.old_none ha
    · exact S.lo p hp
theorem St.add {h' : Heap} {a : Addr} {it : It} (S : St B L s) (k : ∀ b o, s.heap.get? b = some o → h'.get? b = some o) (hz : s.heap.objs.size ≤ h'.objs.size) (ha : s.heap.objs.size ≤ a) (hi : it.At h' a) :
    St B ((a, it) :: L) { s with heap := h' } := S.addN k (Heap.get?_none_of_le ha) hi
theorem St.ext {h' : Heap} {a : Addr} {it : It} (S : St B ((a, it) :: L) s) (hs : Heap.ExtBut a s.heap h') (sf : it.soft = true) (hne : L ≠ []) : St B L { s with heap := h' } := by
  have hit := S.its _ (.head _)
  have hc := hit.soft sf
  have hlo := S.lo _ (.head _)
  have k : ∀ b o, b ≠ a → s.heap.get? b = some o → h'.get? b = some o := hs
  have nd := List.nodup_cons.mp S.nd
  have its : ∀ p ∈ L, p.2.At h' p.1 := fun p hp => (S.its p (.tail _ hp)).but hc k fun z => nd.1 (by
    have z' : p.1 = a := z
    show a ∈ L.map (·.1)
    rw [← z']; exact List.mem_map_of_mem hp)
  have hold : ∀ b o, B.h0.get? b = some o → b ≠ a := fun b o e z => by
    subst z
    rw [show B.h0.get? b = none from hlo] at e; cases e
  refine ⟨fun b o e n => k _ _ (hold b o e) (S.keep b o e n), fun t ht => ?_, its, nd.2, fun p hp => S.lo p (.tail _ hp), S.size, ?_, S.gens, S.os⟩
  · obtain ⟨ps, e, h1, h2⟩ := S.tab t ht
    exact ⟨ps, k _ _ (hold _ _ (B.tab t ht)) e, h1, fun pos cv q => codeRec_but (h2 pos cv q) (B.tq t ht) hc k⟩
  · refine ⟨fun b o e => ?_, fun b o e => let ⟨o', ho'⟩ := S.old.there b o e; ⟨o', k _ _ (hold b o e) ho'⟩⟩
    rcases S.old.old b o e with x | ⟨t, hc, vs, more, hv, x⟩ | ⟨rfl, hc, ⟨o', es, n, ho', r⟩, z⟩
    · exact .inl (k _ _ (hold b o e) x)
    · exact .inr (.inl ⟨t, hc, vs, more, hv, k _ _ (hold b o e) x⟩)
    · have e2 := k _ _ (hold _ o e) ho'
      exact .inr (.inr ⟨rfl, hc, ⟨o', es, n, e2, r⟩, fun key => by rw [OldK.staticOf_congr (e2.trans ho'.symm) key]; exact z key⟩)
theorem St.push {o : Obj} {it : It} (S : St B L s) (hf : o.isFreed = false) (hi : ∀ h' : Heap, h'.get? s.heap.objs.size = some o → it.At h' s.heap.objs.size) :
    St B ((s.heap.objs.size, it) :: L) { s with heap := s.heap.push o } :=
  S.add (fun ι ι e => Heap.get?_push_of_some _ e) (by rw [Heap.size_push]; omega) (Nat.le_refl _) (hi _ (Heap.get?_push_size _ hf))
theorem St.upd {h' : Heap} {a : Addr} {it it' : It} (S : St B ((a, it) :: L) s) (hs : Heap.SameBut a s.heap h') (sf : it.soft = true) (hi : it'.At h' a) : St B ((a, it') :: L) { s with heap := h' } := by
  have hit := S.its _ (.head _)
  have hc := hit.soft sf
  have hlo := S.lo _ (.head _)
  have k : ∀ b o, b ≠ a → s.heap.get? b = some o → h'.get? b = some o := fun b o hb e => (hs.2 b hb).trans e
  have hold : ∀ b o, B.h0.get? b = some o → b ≠ a := fun b o e z => by
    subst z
    rw [show B.h0.get? b = none from hlo] at e; cases e
  have nd := List.nodup_cons.mp S.nd
  refine ⟨fun b o e n => k _ _ (hold b o e) (S.keep b o e n), fun t ht => ?_, fun p hp => ?_, S.nd, fun p hp => ?_, S.size, ?_, S.gens, S.os⟩
  · obtain ⟨ps, e, h1, h2⟩ := S.tab t ht
    exact ⟨ps, k _ _ (hold _ _ (B.tab t ht)) e, h1, fun pos cv q => codeRec_but (h2 pos cv q) (B.tq t ht) hc k⟩
  · rcases List.mem_cons.mp hp with rfl | hp
    · exact hi
    · refine (S.its p (.tail _ hp)).but hc k fun z => nd.1 ?_
      have z' : p.1 = a := z
      show a ∈ L.map (·.1)
      rw [← z']; exact List.mem_map_of_mem hp
  · rcases List.mem_cons.mp hp with rfl | hp
    · exact hlo
    · exact S.lo p (.tail _ hp)
  · refine ⟨fun b o e => ?_, fun b o e => let ⟨o', ho'⟩ := S.old.there b o e; ⟨o', k _ _ (hold b o e) ho'⟩⟩
    rcases S.old.old b o e with x | ⟨t, hc, vs, more, hv, x⟩ | ⟨rfl, hc, ⟨o', es, n, ho', r⟩, z⟩
    · exact .inl (k _ _ (hold b o e) x)
    · exact .inr (.inl ⟨t, hc, vs, more, hv, k _ _ (hold b o e) x⟩)
    · have e2 := k _ _ (hold _ o e) ho'
      exact .inr (.inr ⟨rfl, hc, ⟨o', es, n, e2, r⟩, fun key => by rw [OldK.staticOf_congr (e2.trans ho'.symm) key]; exact z key⟩)
end
noncomputable def Rm (n : Nat) (A : Around) : Prop := A.handled = none ∧ A.depth + n < recursionLimit ∧ A.units + 8 * n < cLine
theorem Rm.in1 {n : Nat} {A : Around} (h : Rm (n + 1) A) : Rm n A.in1 := ⟨h.1, by have := h.2.1; show A.depth + n < _; omega, by have := h.2.2; show A.units + 1 + 8 * n < _; omega⟩
theorem Rm.deeper {n : Nat} {A : Around} {env : Env} (h : Rm (n + 1) A) : Rm n (A.deeper env) := ⟨h.1, by have := h.2.1; show A.depth + 1 + n < _; omega, by have := h.2.2; show A.units + 3 + 8 * n < _; omega⟩
theorem Rm.room {n : Nat} {A : Around} (h : Rm n A) : A.depth < recursionLimit := by have := h.2.1; omega
noncomputable def T (B : Bg) (n : Nat) {α : Type} (t : Sem α) (L : Led) (Q : α → Led → Prop) : Prop :=
  ∀ A, Rm n A → ∀ s, St B L s → wpAny (model B.prog B.w) A t (fun a s' => ∃ L', St B L' s' ∧ Q a L') (fun ι ι => False) s
noncomputable def Tc (B : Bg) (n : Nat) (c : Code) (L : Led) (Q : Flow → Led → Prop) : Prop :=
  ∀ A, Rm n A → ∀ s, St B L s → codeAny (model B.prog B.w) A c (fun r s' => ∃ f L', r = .ok f ∧ St B L' s' ∧ Q f L') s
section
variable {B : Bg} {n : Nat} {α β : Type} {L L' L₁ : Led}
theorem T_pure {a : α} {Q : α → Led → Prop} (h : Q a L) : T B n (pure a) L Q := fun ι ι ι S => wpAny_pure ⟨L, S, h⟩
theorem T_bind {m : Sem α} {f : α → Sem β} {Q : β → Led → Prop} (h : T B n m L fun a L' => T B n (f a) L' Q) : T B n (m >>= f) L Q := fun A hA s S =>
  wpAny_bind (wpAny_mono (h A hA s S) (fun a s' ⟨L', S', h'⟩ => h' A hA s' S') fun ι ι x => x)
theorem T_mono {t : Sem α} {Q Q' : α → Led → Prop} (h : T B n t L Q) (hq : ∀ a L, Q a L → Q' a L) : T B n t L Q' := fun A hA s S =>
  wpAny_mono (h A hA s S) (fun a s' ⟨L', S', h'⟩ => ⟨L', S', hq _ _ h'⟩) fun ι ι x => x
theorem T_pick {t : Sem α} {Q : α → Led → Prop} (p : Pick L' L) (h : T B n t L' Q) : T B n t L Q := fun A hA s S => h A hA s (S.pick p)
theorem T_rem {t : Sem α} {Q : α → Led → Prop} {p : Addr × It} (r : Rem p L L') (h : T B n t (p :: L') Q) : T B n t L Q := fun A hA s S => h A hA s (S.rem r)
theorem T_mkInt {i : Int} {Q : Value → Led → Prop} (h : ∀ t, Q (.int i t) L) : T B n (mkInt i) L Q := fun ι ι ι S => wpAny_mkInt ⟨L, S.tp, h _⟩
theorem T_standAt {p : Pos} {Q : Unit → Led → Prop} (h : Q () L) : T B n (standAt p) L Q := fun ι ι ι S => wpAny_standAt ⟨L, S, h⟩
theorem T_holding {vs : List Value} {m : Sem α} {Q : α → Led → Prop} (h : T B n m L Q) : T B n (holding vs m) L Q := fun A hA s S => wpAny_holding (h A hA s S)
theorem T_get {a : Addr} {o : Obj} {part : Option Value} {Q : Obj → Led → Prop} (e : B.h0.get? a = some o) (ht : ∀ t ∈ B.tabs, a ≠ t.P) (h : Q o L) : T B n (loadPart a part) L Q := fun ι ι ι S => wpAny_loadPart (S.keep _ _ e ht) ⟨L, S, h⟩
theorem T_point {Q : Unit → Led → Prop} (h : Q () L) : T B n point L Q := fun ι ι ι S => wpAny_point ⟨L, S, h⟩
end
section
variable {B : Bg} {n : Nat} {α β : Type} {L L' L₁ : Led}
theorem T_onRaise {m : Sem α} {k : Value → Sem Unit} {Q : α → Led → Prop} (h : T B n m L Q) : T B n (m.onRaise k) L Q := fun A hA s S =>
  wpAny_onRaise (wpAny_mono (h A hA s S) (fun ι ι x => x) fun ι ι x => x.elim)
theorem T_rule {tag : String} {Q : Unit → Led → Prop} (h : Q () L) : T B n (PySem.rule tag) L Q := fun ι ι ι S => wpAny_rule ⟨L, S, h⟩
theorem T_release_go {keep : List Value} : ∀ {l : List Value} {Q : Unit → Led → Prop}, Q () L → T B n (release.go keep l) L Q
  | [], _, h => T_pure h
  | [_], _, h => T_pure h
  | _ :: y :: l, _, h => T_bind (T_holding (T_point (T_release_go (l := y :: l) h)))
theorem T_release {vs keep : List Value} {Q : Unit → Led → Prop} (h : Q () L) : T B n (release vs keep) L Q := T_release_go h
theorem T_operate {vs : List Value} {m : Sem Value} {Q : Value → Led → Prop} (h : T B n m L Q) : T B n (operate vs m) L Q :=
  T_bind (T_holding (T_mono h fun ι ι hq => T_bind (T_release (T_pure hq))))
theorem T_keepv {vs : List Value} {m : Sem α} {Q : α → Led → Prop} (h : T B n m L Q) : T B n (m.keep vs) L Q := fun A hA s S => Calls.wpAny_keep (h A hA s S)
theorem T_mkText {x : Str} {Q : Value → Led → Prop} (h : ∀ t, Q (.str x t) L) : T B n (mkText x) L Q := fun ι ι ι S => wpAny_mkText ⟨L, S.tp, h _⟩
theorem T_bindName {env : Env} {x : Str} {v : Value} {Q : Unit → Led → Prop} (h : T B n (storeName env x v) L Q) : T B n (bindName env x v) L Q :=
  T_bind (T_holding (T_point (T_bind (T_mono h fun ι ι hq => T_point hq))))
noncomputable abbrev tup (vs : List Value) : It := .ob { cls := .type "tuple", data := .seq vs.toArray }
theorem T_newObj {cls : String} {d : Data} {Q : Value → Led → Prop} {it : It} (hi : ∀ (h : Heap) a, h.get? a = some { cls := .type cls, data := d } → it.At h a) (hf : (Obj.isFreed { cls := .type cls, data := d }) = false)
    (hz : sizeOk d) (h : ∀ a, Q (.ref a) ((a, it) :: L)) : T B n (newObj (.type cls) d) L Q := fun ι ι s S =>
  wpAny_newObj_type (Q := fun v s' => ∃ L', St B L' s' ∧ Q v L') ⟨_, S.push hf fun h' e => hi _ _ e, h _⟩ hz
theorem T_newTuple {vs : List Value} {Q : Value → Led → Prop} (hz : vs.length ≤ sizeLine) (h : ∀ a, Q (.ref a) ((a, tup vs) :: L)) : T B n (newTuple vs) L Q :=
  T_newObj (it := tup vs) (fun ι ι e => e) rfl (by show vs.toArray.size ≤ sizeLine; rw [List.size_toArray]; exact hz) h
theorem T_newList {vs : List Value} {Q : Value → Led → Prop} (hz : vs.length ≤ sizeLine) (h : ∀ a, Q (.ref a) ((a, .ls vs) :: L)) : T B n (newList vs) L Q :=
  T_newObj (it := .ls vs) (fun ι ι e => ⟨_, e⟩) rfl (by show vs.toArray.size ≤ sizeLine; rw [List.size_toArray]; exact hz) h
noncomputable abbrev flds (cls : String) (vs : List Value) : It := .ob { cls := .type cls, data := .fields vs.toArray }
theorem T_newFields {cls : String} {vs : List Value} {Q : Value → Led → Prop} (hz : vs.length ≤ sizeLine + 2) (h : ∀ a, Q (.ref a) ((a, flds cls vs) :: L)) : T B n (newFields cls vs) L Q :=
  T_newObj (it := flds cls vs) (fun ι ι e => e) rfl (by show vs.toArray.size ≤ sizeLine + 2; rw [List.size_toArray]; exact hz) h
structure EnvIs (env : Env) (ks : List (Str × NameKind)) (F : Addr) (cl : List (Str × Addr)) : Prop where
  kind : env.scope.kind = .function
  kd : ∀ p ∈ ks, env.kindOf p.1 = some p.2
  nd : ∀ p ∈ ks, (p.1 == ("__debug__" : Str)) = false ∧ (p.1 == ("__classdict__" : Str)) = false
  loc : env.locals = F
  glob : env.globals = mainGlobals
  bi : env.builtins = builtinsNs
  cells : env.cells = cl
  cnd : (cl.map (·.1)).Nodup
theorem lookup_of_mem {β : Type} : ∀ {m : List (Str × β)} {x : Str} {v : β}, (m.map (·.1)).Nodup → (x, v) ∈ m → m.lookup x = some v
  | [], _, _, _, h => nomatch h
  | (y, w) :: r, x, v, nd, h => by
    rw [List.lookup_cons]
    have nd' := List.nodup_cons.mp nd
    rcases List.mem_cons.mp h with e | h
    · cases e; simp
    · have : (x == y) = false := beq_eq_false_iff_ne.mpr fun e => nd'.1 (by
        show y ∈ r.map (·.1)
        rw [← e]; exact List.mem_map_of_mem (f := (·.1)) h)
      rw [this]; exact lookup_of_mem nd'.2 h
variable {env : Env} {ks : List (Str × NameKind)} {F : Addr} {cl : List (Str × Addr)} {x : Str} {pos : Pos} {m m' : List (Str × Option Value)} {v : Value} {c : Addr}
theorem St.ns {s : Shared} (S : St B L s) (hm : (F, It.ns m) ∈ L) : s.heap.Ns F (fun x => (m.lookup x).join) := (S.its _ hm).1
theorem St.nsnd {s : Shared} (S : St B L s) (hm : (F, It.ns m) ∈ L) : (m.map (·.1)).Nodup := (S.its _ hm).2
theorem T_ld_local {Q : Value → Led → Prop} (E : EnvIs env ks F cl) (hk : (x, NameKind.local) ∈ ks) (hm : (F, It.ns m) ∈ L) (hv : (x, some v) ∈ m) (h : Q v L) : T B n (loadName env x) L Q := fun ι ι s S =>
  wpAny_loadName_local E.kind (E.kd _ hk) (by rw [E.loc]; exact S.ns hm) (by show (m.lookup x).join = some v; rw [lookup_of_mem (S.nsnd hm) hv]; rfl) ⟨L, S, h⟩
theorem T_ld_cell {Q : Value → Led → Prop} (E : EnvIs env ks F cl) (hk : (x, NameKind.cell) ∈ ks) (hc : (x, c) ∈ cl) (hm : (c, It.ce (some v)) ∈ L) (h : Q v L) : T B n (loadName env x) L Q := fun ι ι s S =>
  wpAny_loadName_cell E.kind (E.kd _ hk) (by rw [E.cells]; exact lookup_of_mem E.cnd hc) (S.its _ hm) ⟨L, S, h⟩
theorem T_ld_free {Q : Value → Led → Prop} (E : EnvIs env ks F cl) (hk : (x, NameKind.free) ∈ ks) (hc : (x, c) ∈ cl) (hm : (c, It.ce (some v)) ∈ L) (h : Q v L) : T B n (loadName env x) L Q := fun ι ι s S =>
  wpAny_loadName_free E.kind (E.kd _ hk) (by rw [E.cells]; exact lookup_of_mem E.cnd hc) (S.its _ hm) ⟨L, S, h⟩ (E.nd _ hk).2
theorem noTab_of_dict {t : TabRec} (ht : t ∈ B.tabs) {a : Addr} {o : Obj} {es ep} (e : B.h0.get? a = some o) (hd : o.data = .dict es ep) : a ≠ t.P := fun z => by
  have := B.tab t ht
  rw [← z, e] at this
  cases this; cases hd
theorem St.nsOld {s : Shared} (S : St B L s) {a : Addr} {m} (h : B.h0.Ns a m) : s.heap.Ns a m :=
  let ⟨o, es, ep, e, hd, r⟩ := h
  ⟨o, es, ep, S.keep _ _ e (fun t ht => noTab_of_dict ht e hd), hd, r⟩
theorem St.lim {s : Shared} (S : St B L s) : s.heap.NoLimit := let ⟨mc, a, r⟩ := B.lim; ⟨mc, S.nsOld a, r⟩
theorem T_ld_glob {Q : Value → Led → Prop} (E : EnvIs env ks F cl) (hk : (x, NameKind.globalImplicit) ∈ ks) (hv : B.mg x = some v) (h : Q v L) : T B n (eval (.Name x pos) env) L Q := fun ι ι s S =>
  Name_function_global E.kind (E.kd _ hk) (loadGlobal_global (by rw [E.glob]; exact S.nsOld B.g) hv ⟨L, S, h⟩) (E.nd _ hk).1
theorem T_ld_blt {Q : Value → Led → Prop} (E : EnvIs env ks F cl) (hk : (x, NameKind.globalImplicit) ∈ ks) (hn : B.mg x = none) (hv : bootBuiltins x = some v) (hnn : x ≠ "__name__") (h : Q v L) : T B n (eval (.Name x pos) env) L Q := fun ι ι s S =>
  Name_function_global E.kind (E.kd _ hk) (loadGlobal_builtin (by rw [E.glob]; exact S.nsOld B.g) hn (by rw [E.bi]; exact S.nsOld B.b) ((B.bb x hnn).trans hv) ⟨L, S, h⟩) (E.nd _ hk).1
theorem T_Name {Q : Value → Led → Prop} (hd : (x == ("__debug__" : Str)) = false) (h : T B n (loadName env x) L Q) : T B n (eval (.Name x pos) env) L Q := fun A hA s S => wpAny_Name (h A hA s S) hd
theorem T_n_local {Q : Value → Led → Prop} (E : EnvIs env ks F cl) (hk : (x, NameKind.local) ∈ ks) (hm : (F, It.ns m) ∈ L) (hv : (x, some v) ∈ m) (h : Q v L) : T B n (eval (.Name x pos) env) L Q := T_Name (E.nd _ hk).1 (T_ld_local E hk hm hv h)
theorem T_n_cell {Q : Value → Led → Prop} (E : EnvIs env ks F cl) (hk : (x, NameKind.cell) ∈ ks) (hc : (x, c) ∈ cl) (hm : (c, It.ce (some v)) ∈ L) (h : Q v L) : T B n (eval (.Name x pos) env) L Q := T_Name (E.nd _ hk).1 (T_ld_cell E hk hc hm h)
theorem T_n_free {Q : Value → Led → Prop} (E : EnvIs env ks F cl) (hk : (x, NameKind.free) ∈ ks) (hc : (x, c) ∈ cl) (hm : (c, It.ce (some v)) ∈ L) (h : Q v L) : T B n (eval (.Name x pos) env) L Q := T_Name (E.nd _ hk).1 (T_ld_free E hk hc hm h)
inductive Put (x : Str) (v : Option Value) : List (Str × Option Value) → List (Str × Option Value) → Prop
  | head {o r} : Put x v ((x, o) :: r) ((x, v) :: r)
  | tail {p r r'} : Put x v r r' → Put x v (p :: r) (p :: r')
theorem Put.keys {x : Str} {v : Option Value} (h : Put x v m m') : m'.map (·.1) = m.map (·.1) := by
  induction h with
  | head => rfl
  | tail _ ih => simp only [List.map_cons, ih]
theorem Put.mem {x : Str} {v : Option Value} (h : Put x v m m') : x ∈ m.map (·.1) := by
  induction h with
  | head => exact .head _
  | tail _ ih => exact .tail _ ih
theorem Put.lookup {x : Str} {v : Option Value} (h : Put x v m m') (nd : (m.map (·.1)).Nodup) (y : Str) : m'.lookup y = if y = x then some v else m.lookup y := by
  induction h with
  | head =>
    by_cases e : y = x
    · subst e; simp [List.lookup_cons]
    · simp [List.lookup_cons, e, beq_eq_false_iff_ne.mpr e]
  | @tail p r r' hp ih =>
    have nd' := List.nodup_cons.mp nd
    rw [List.lookup_cons, List.lookup_cons]
    by_cases e : y = x
    · subst e
      have : (y == p.1) = false := beq_eq_false_iff_ne.mpr fun z => nd'.1 (by show p.1 ∈ r.map (·.1); rw [← z]; exact hp.mem)
      rw [this]; simp only [ih nd'.2, if_true]
    · cases hq : y == p.1 <;> simp [ih nd'.2, e]
theorem T_st_local {Q : Unit → Led → Prop} (E : EnvIs env ks F cl) (hk : (x, NameKind.local) ∈ ks) (hr : Rem (F, It.ns m) L L₁) (hp : Put x (some v) m m') (h : Q () ((F, It.ns m') :: L₁)) : T B n (storeName env x v) L Q := fun ι ι s S => by
  have S₁ := S.rem hr
  have N := S₁.its _ (.head _)
  refine wpAny_storeName_local (E.kd _ hk) (by rw [E.loc]; exact N.1) (fun h' hn hs => ⟨_, (S₁.upd (h' := h') (it' := .ns m') (by rw [E.loc] at hs; exact hs) rfl ⟨?_, by rw [hp.keys]; exact N.2⟩).tp, h⟩) ?_
  · rw [E.loc] at hn
    have e : (fun y => if y = x then some v else (m.lookup y).join) = fun y => (m'.lookup y).join := by
      funext y
      rw [hp.lookup N.2]
      by_cases z : y = x <;> simp [z]
    rw [← e]; exact hn
  · rw [E.kind, E.glob]; rfl
theorem T_st_cell {o : Option Value} {Q : Unit → Led → Prop} (E : EnvIs env ks F cl) (hk : (x, NameKind.cell) ∈ ks) (hc : (x, c) ∈ cl) (hr : Rem (c, It.ce o) L L₁) (h : Q () ((c, It.ce (some v)) :: L₁)) : T B n (storeName env x v) L Q := fun ι ι s S => by
  have S₁ := S.rem hr
  exact wpAny_storeName_cell E.kind (E.kd _ hk) (by rw [E.cells]; exact lookup_of_mem E.cnd hc) (S₁.its _ (.head _)) fun h' hv hs => ⟨_, S₁.upd (it' := .ce (some v)) hs rfl hv, h⟩
theorem T_c_int {i : Int} {k : Nat} {Q : Value → Led → Prop} (h : ∀ t, Q (.int i t) L) : T B n (eval (.Constant (.int i) k pos) env) L Q := T_mkInt h
theorem T_c_str {i : Str} {k : Nat} {Q : Value → Led → Prop} (h : ∀ t, Q (.str i t) L) : T B n (eval (.Constant (.str i) k pos) env) L Q := T_mkText h
theorem T_c_none {k : Nat} {Q : Value → Led → Prop} (h : Q .none L) : T B n (eval (.Constant .none k pos) env) L Q := T_pure h
theorem T_BinOp {l r : Expr} {op : Operator} {Q : Value → Led → Prop} (h : T B n (eval l env) L fun a L₁ => T B n (eval r env) L₁ fun b L₂ => T B n (binaryOp op a b) L₂ Q) : T B n (eval (.BinOp l op r pos) env) L Q := by
  rw [arm_eval_BinOp]
  exact T_bind (T_mono h fun ι ι h1 => T_bind (T_holding (T_mono h1 fun ι ι h2 => T_bind (T_standAt (T_operate h2)))))
theorem T_UnaryOp {e : Expr} {op : UnaryOp} {Q : Value → Led → Prop} (h : T B n (eval e env) L fun a L₁ => T B n (unaryOp op a) L₁ Q) : T B n (eval (.UnaryOp op e pos) env) L Q := by
  rw [arm_eval_UnaryOp]
  exact T_bind (T_mono h fun ι ι h1 => T_bind (T_standAt (T_holding h1)))
theorem T_Compare {l r : Expr} {op : CmpOp} {Q : Value → Led → Prop} (hm : behindInMarks op r = false) (h : T B n (eval l env) L fun a L₁ => T B n (eval r env) L₁ fun b L₂ => T B n (compareOp op a b) L₂ Q) : T B n (eval (.Compare l [op] [r] pos) env) L Q := by
  rw [eval_Compare1, markedBehindIn_of_false hm]
  exact T_bind (T_mono h fun ι ι h1 => T_bind (T_holding (T_mono h1 fun ι ι h2 => T_bind (T_standAt (T_operate h2)))))
theorem T_t_Compare {l r : Expr} {op : CmpOp} {wh : Sem Value} {Q : Bool → Led → Prop} (hm : behindInMarks op r = false) (h : T B n (eval l env) L fun a L₁ => T B n (eval r env) L₁ fun b L₂ => T B n (compareOp op a b) L₂ fun c L₃ => T B n (truthy c) L₃ Q) : T B n (isTrue (.Compare l [op] [r] pos) env wh) L Q := by
  rw [isTrue_Compare1, markedBehindIn_of_false hm]
  exact T_bind (T_mono h fun ι ι h1 => T_bind (T_holding (T_mono h1 fun ι ι h2 => T_bind (T_standAt (T_bind (T_operate (T_mono h2 fun ι ι h3 => T_holding h3)))))))
theorem T_t_bool {b : Bool} {Q : Bool → Led → Prop} (h : Q b L) : T B n (truthy (.bool b)) L Q := T_pure h
theorem T_t_Not {e : Expr} {wh : Sem Value} {Q : Bool → Led → Prop} (h : T B n (isTrue e env (eval e env)) L fun b L₁ => Q (!b) L₁) : T B n (isTrue (.UnaryOp .Not e pos) env wh) L Q := by
  rw [arm_isTrue_UnaryOp]; exact T_bind (T_mono h fun ι ι h1 => T_pure h1)
theorem T_t_Or {l r : Expr} {wh : Sem Value} {Q : Bool → Led → Prop} (h : T B n (isTrue l env (eval l env)) L fun b L₁ => (b = true → Q true L₁) ∧ (b = false → T B n (isTrue r env (eval r env)) L₁ Q)) : T B n (isTrue (.BoolOp .Or [l, r] pos) env wh) L Q := by
  rw [arm_isTrue_BoolOp, arm_allTrue_cons]
  refine T_bind (T_mono h fun b L₁ h1 => ?_)
  cases b with
  | true => exact T_pure (h1.1 rfl)
  | false =>
    show T B n (allTrue .Or [r] env) L₁ Q
    rw [arm_allTrue_cons]
    refine T_bind (T_mono (h1.2 rfl) fun b L₂ h2 => ?_)
    cases b with
    | true => exact T_pure h2
    | false => exact T_pure h2
theorem T_IfExp {t b o : Expr} {Q : Value → Led → Prop} (h : T B n (isTrue t env (eval t env)) L fun c L₁ => (c = true → T B n (eval b env) L₁ Q) ∧ (c = false → T B n (eval o env) L₁ Q)) : T B n (eval (.IfExp t b o pos) env) L Q := by
  rw [arm_eval_IfExp]
  refine T_bind (T_mono h fun c L₁ h1 => ?_)
  cases c with
  | true => exact h1.1 rfl
  | false => exact h1.2 rfl
theorem T_items_nil {Q : List Value → Led → Prop} (h : Q [] L) : T B n (spliced (backTo pos (starEach [] env))) L Q := T_pure h
theorem T_items_cons {e : Expr} {rest : List Expr} {Q : List Value → Led → Prop} (he : starEach (e :: rest) env = (false, eval e env) :: starEach rest env)
    (h : T B n (eval e env) L fun v L₁ => T B n (spliced (backTo pos (starEach rest env))) L₁ fun vs L₂ => Q (v :: vs) L₂) : T B n (spliced (backTo pos (starEach (e :: rest) env))) L Q := by
  rw [he]
  show T B n (eval e env >>= fun v => pure [v] >>= fun here => holding here (spliced (backTo pos (starEach rest env))) >>= fun r => pure (here ++ r)) L Q
  exact T_bind (T_mono h fun ι ι h1 => T_bind (T_pure (T_bind (T_holding (T_mono h1 fun ι ι h2 => T_pure h2)))))
theorem T_Tuple {es : List Expr} {k : Nat} {Q : Value → Led → Prop} (h : T B n (spliced (backTo pos (starEach es env))) L fun vs L₁ => vs.length ≤ sizeLine ∧ ∀ a, Q (.ref a) ((a, tup vs) :: L₁)) : T B n (eval (.Tuple es k pos) env) L Q := by
  rw [arm_eval_Tuple]
  exact T_bind (T_standAt (T_bind (T_mono h fun ι ι h1 => T_newTuple h1.1 h1.2)))
theorem T_List {es : List Expr} {Q : Value → Led → Prop} (h : T B n (spliced (backTo pos (starEach es env))) L fun vs L₁ => vs.length ≤ sizeLine ∧ ∀ a, Q (.ref a) ((a, .ls vs) :: L₁)) : T B n (eval (.List es pos) env) L Q := by
  rw [arm_eval_List]
  exact T_bind (T_standAt (T_bind (T_mono h fun ι ι h1 => T_newList h1.1 h1.2)))
noncomputable def Seq (B : Bg) (n : Nat) (rest : List Stmt) (env : Env) (Q : Flow → Led → Prop) : Flow → Led → Prop := fun f L => match f with
  | .next => T B n (execs rest env) L Q
  | f => Q f L
theorem T_seq {st : Stmt} {rest : List Stmt} {Q : Flow → Led → Prop} (h : T B n (exec st env) L (Seq B n rest env Q)) : T B n (execs (st :: rest) env) L Q := by
  rw [arm_execs_cons]
  refine T_bind (T_mono h fun f L₁ h1 => ?_)
  cases f <;> first | exact h1 | exact T_pure h1
theorem T_nil {Q : Flow → Led → Prop} (h : Q .next L) : T B n (execs [] env) L Q := T_pure h
theorem T_nilSeq {env' : Env} {rest : List Stmt} {Q : Flow → Led → Prop} (h : T B n (execs rest env') L Q) : T B n (execs [] env) L (Seq B n rest env' Q) := T_pure h
theorem T_s_Assign {value : Expr} {rest : List Stmt} {px pos : Pos} {Q : Flow → Led → Prop} (hs : swapsWith value (some (.Name x px)) pos.line env = pure false)
    (h : T B n (eval value env) L fun v L₁ => T B n (storeName env x v) L₁ fun ι L₂ => T B n (execs rest env) L₂ Q) : T B n (execs (.Assign [.Name x px] value pos :: rest) env) L Q := by
  refine T_seq ?_
  rw [exec_Assign_Name env x px value pos hs]
  exact T_bind (T_standAt (T_bind (T_mono h fun ι ι h1 => T_bind (T_standAt (T_bind (T_bindName (T_mono h1 fun ι ι h2 => T_pure h2)))))))
theorem T_s_Aug {value : Expr} {op : Operator} {rest : List Stmt} {px pos : Pos} {Q : Flow → Led → Prop}
    (h : T B n (loadName env x) L fun old L₁ => T B n (eval value env) L₁ fun v L₂ => T B n (inplaceOp op old v) L₂ fun r L₃ => T B n (storeName env x r) L₃ fun ι L₄ => T B n (execs rest env) L₄ Q) : T B n (execs (.AugAssign (.Name x px) op value pos :: rest) env) L Q := by
  refine T_seq ?_
  rw [arm_exec_AugAssign]
  exact T_bind (T_standAt (T_bind (T_mono h fun ι ι h1 => T_bind (T_holding (T_mono h1 fun ι ι h2 => T_bind (T_standAt (T_bind (T_operate (T_mono h2 fun ι ι h3 => T_bind (T_standAt (T_bind (T_bindName (T_mono h3 fun ι ι h4 => T_pure h4))))))))))))) 
theorem T_s_If {test : Expr} {body orelse rest : List Stmt} {Q : Flow → Led → Prop}
    (h : T B n (isTrue test env (eval test env)) L fun b L₁ => (b = true → T B n (execs body env) L₁ (Seq B n rest env Q)) ∧ (b = false → T B n (execs orelse env) L₁ (Seq B n rest env Q))) : T B n (execs (.If test body orelse pos :: rest) env) L Q := by
  refine T_seq ?_
  rw [arm_exec_If]
  refine T_bind (T_standAt (T_bind (T_mono h fun b L₁ h1 => ?_)))
  cases b with
  | true => exact h1.1 rfl
  | false => exact h1.2 rfl
theorem T_s_Return {e : Expr} {rest : List Stmt} {Q : Flow → Led → Prop} (h : T B n (eval e env) L fun v L₁ => Q (.ret v) L₁) : T B n (execs (.Return (some e) pos :: rest) env) L Q := by
  refine T_seq ?_
  rw [exec_Return_some]
  exact T_bind (T_standAt (T_bind (T_mono h fun ι ι h1 => T_pure h1)))
theorem T_s_ReturnNone {rest : List Stmt} {Q : Flow → Led → Prop} (h : Q (.ret .none) L) : T B n (execs (.Return none pos :: rest) env) L Q := by
  refine T_seq ?_
  rw [exec_Return_none]
  exact T_bind (T_standAt (T_pure h))
theorem T_s_Break {rest : List Stmt} {Q : Flow → Led → Prop} (h : Q .brk L) : T B n (execs (.Break pos :: rest) env) L Q := T_seq (T_bind (T_standAt (T_pure h)))
theorem T_s_Continue {rest : List Stmt} {Q : Flow → Led → Prop} (h : Q .cont L) : T B n (execs (.Continue pos :: rest) env) L Q := T_seq (T_bind (T_standAt (T_pure h)))
theorem T_s_Expr {e : Expr} {rest : List Stmt} {Q : Flow → Led → Prop} (E : EnvIs env ks F cl) (hs : swapsWith e none pos.line env = pure false)
    (h : T B n (eval e env) L fun v L₁ => v.onHeap = false ∧ T B n (execs rest env) L₁ Q) : T B n (execs (.Expr e pos :: rest) env) L Q := by
  refine T_seq ?_
  rw [exec_Expr env e pos (by unfold interactive; rw [E.kind]; rfl) hs]
  refine T_bind (T_standAt (T_bind (T_mono h fun v L₁ h1 => ?_)))
  rw [dropValue_plain (fun a z => by rw [z] at h1; exact absurd h1.1 (by simp [Value.onHeap]))]
  exact T_pure h1.2
end
section
variable {B : Bg} {n : Nat} {α β : Type} {L L' L₁ : Led} {env : Env} {ks : List (Str × NameKind)} {F : Addr} {cl : List (Str × Addr)} {x : Str} {pos : Pos} {m m' : List (Str × Option Value)} {v : Value} {c : Addr}
theorem Tc_mono {c : Code} {Q Q' : Flow → Led → Prop} (h : Tc B n c L Q) (hq : ∀ a L, Q a L → Q' a L) : Tc B n c L Q' := fun A hA s S =>
  codeAny_mono (h A hA s S) fun r s' ⟨f, L', e, S', h'⟩ => ⟨f, L', e, S', hq _ _ h'⟩
theorem Tc_pick {c : Code} {Q : Flow → Led → Prop} (p : Pick L' L) (h : Tc B n c L' Q) : Tc B n c L Q := fun A hA s S => h A hA s (S.pick p)
theorem Tc_rem {c : Code} {Q : Flow → Led → Prop} {p : Addr × It} (r : Rem p L L') (h : Tc B n c (p :: L') Q) : Tc B n c L Q := fun A hA s S => h A hA s (S.rem r)
theorem T_run {c : Code} {Q : Flow → Led → Prop} (h : Tc B n c L Q) : T B n (run c) L Q := fun A hA s S =>
  wpAny_run (codeAny_mono (h A hA s S) fun r s' ⟨f, L', e, S', h'⟩ => by subst e; exact ⟨L', S', h'⟩)
theorem T_runOwn {c : Code} {Q : Flow → Led → Prop} (h : Tc B n c L Q) : T B n (runOwn c env) L Q := T_onRaise (T_run h)
noncomputable def RetQ (Q : Value → Led → Prop) : Flow → Led → Prop := fun f L => ∃ v, f = .ret v ∧ Q v L
theorem T_runValue {c : Code} {Q : Value → Led → Prop} (h : Tc B n c L (RetQ Q)) : T B n (runValue c) L Q := fun A hA s S =>
  wpAny_runValue (codeAny_mono (h A hA s S) fun r s' ⟨f, L', e, S', v, e', h'⟩ => by subst e; subst e'; exact ⟨L', S', h'⟩)
theorem T_call {f : Value} {pos : List Value} {kw : List (Str × Value)} {Q : Value → Led → Prop} (h : Tc B n (.call f ⟨pos, kw⟩) L (RetQ Q)) : T B n (call f pos kw) L Q := T_runValue h
noncomputable def FQ (B : Bg) (n : Nat) (Q : Value → Led → Prop) : Fin → Led → Prop
  | .done (.ret v), L => Q v L
  | .again c, L => c.quiet = true ∧ Tc B n c L (RetQ Q)
  | _, _ => False
theorem T_ret {v : Value} {k : Nat} {Q : Value → Led → Prop} (h : Q v L) : T B n (ret v) L (FQ B k Q) := T_pure h
theorem T_again {c : Code} {k : Nat} {Q : Value → Led → Prop} (hq : c.quiet = true) (h : Tc B k c L (RetQ Q)) : T B n (again c) L (FQ B k Q) := T_pure ⟨hq, h⟩
theorem finQ {A : Around} {Q : Value → Led → Prop} {s' : Shared} {L' : Led} (hA : Rm n A) (S : St B L' s') : ∀ {fin : Fin}, FQ B n Q fin L' →
    match fin with | .done f => ∃ f' L', (Except.ok f : Result) = .ok f' ∧ St B L' s' ∧ RetQ Q f' L' | .again c' => c'.quiet = true ∧ codeAny (model B.prog B.w) A c' (fun r s' => ∃ f L', r = .ok f ∧ St B L' s' ∧ RetQ Q f L') s' := by
  intro fin h
  cases fin with
  | done f => cases f with
    | ret v => exact ⟨_, _, rfl, S, v, rfl, h⟩
    | _ => exact h.elim
  | again c => exact ⟨h.1, h.2 A hA s' S⟩
theorem Tc_builtin {id : String} {args : Args} {b : Builtin} {Q : Value → Led → Prop} (hp : plainId id = true) (hb : entryFor table id = some b) (h : T B n (b args) L (FQ B (n + 1) Q)) : Tc B (n + 1) (.builtin id args) L (RetQ Q) := fun A hA s S => by
  refine codeAny_builtin hb ?_
  rw [Around.under_plainId hp args]
  exact wpAny_mono (h _ hA.in1 s S) (fun fin s' ⟨L', S', h'⟩ => finQ hA S' h') fun ι ι x => x.elim
noncomputable def TyIs (B : Bg) (L : Led) (v : Value) (Ty : String) : Prop := ∀ s, St B L s → s.TypeIs v Ty
theorem ty_ls {a : Addr} {vs : List Value} (h : (a, It.ls vs) ∈ L) : TyIs B L (.ref a) "list" := fun s S => let ⟨_, e⟩ := S.its _ h; ⟨_, e, rfl⟩
theorem ty_int {i : Int} {t : Tok} : TyIs B L (.int i t) "int" := fun ι ι => rfl
theorem ty_str {i : Str} {t : Tok} : TyIs B L (.str i t) "str" := fun ι ι => rfl
theorem T_slot {Ty : String} {name : Str} {id : String} {b : Builtin} {self : Value} {rest : List Value} {Q : Value → Led → Prop} (slot : Slot Ty name id) (hb : entryFor table id = some b) (hT : TyIs B L self Ty) (ha : argsOk id ⟨self :: rest, []⟩)
    (h : T B n (b ⟨self :: rest, []⟩) L (FQ B (n + 1) Q)) : T B (n + 1) (call (.builtin id) (self :: rest) []) L Q :=
  T_call fun A hA s S => codeAny_call_builtin slot.plain hb (slot.check _ _ _ _ _ _ _ _ (hT s S) ha (wpAny_mono (h _ hA.in1 s S) (fun fin s' ⟨L', S', h'⟩ => finQ hA S' h') fun ι ι x => x.elim))
theorem T_fun {id : String} {b : Builtin} {args : List Value} {Q : Value → Led → Prop} (hk : builtinKind id = none) (hp : plainId id = true) (hb : entryFor table id = some b) (ha : argsOk id ⟨args, []⟩)
    (h : T B n (b ⟨args, []⟩) L (FQ B (n + 1) Q)) : T B (n + 1) (call (.builtin id) args []) L Q := T_call fun A hA s S => by
  refine codeAny_call_builtin hp hb ?_
  have hfin := wpAny_mono (Q' := fun fin s' => match fin with | .done f => ∃ f' L', (Except.ok f : Result) = .ok f' ∧ St B L' s' ∧ RetQ Q f' L' | .again c' => c'.quiet = true ∧ codeAny (model B.prog B.w) A c' (fun r s' => ∃ f L', r = .ok f ∧ St B L' s' ∧ RetQ Q f L') s')
    (E' := fun e s' => ∃ f L', (Except.error e : Result) = .ok f ∧ St B L' s' ∧ RetQ Q f L') (h _ hA.in1 s S) (fun fin s' ⟨L', S', h'⟩ => finQ hA S' h') fun ι ι x => x.elim
  simp only [checkBuiltinCall, hk]
  cases hsig : Manifest.signature? id with
  | none => exact wpAny_pure hfin
  | some sig =>
    simp only [argsOk, hsig] at ha
    have h2 : Bind.checkArgs id sig ⟨args, []⟩ = pure () := ha
    show wpAny _ A.in1 (Bind.checkArgs id sig ⟨args, []⟩) _ _ s
    rw [h2]; exact wpAny_pure hfin
noncomputable def Kp (B : Bg) (L : Led) (f : Value) : Prop := ∀ n (Q : Keeper → Led → Prop), (∀ k, Q k L) → T B n (keeperOf f) L Q
theorem kp_blt {id : String} : Kp B L (.builtin id) := fun n Q h => T_pure (h _)
theorem kp_ty {id : String} : Kp B L (.type id) := fun n Q h => T_pure (h _)
theorem kp_fn {f : Addr} {o : Obj} {fd : FuncData} (e : B.h0.get? f = some o) (hd : o.data = .func fd) : Kp B L (.ref f) := fun n Q h => by
  have hn : ∀ t ∈ B.tabs, f ≠ t.P := fun t ht z => by
    have := B.tab t ht
    rw [← z, e] at this
    cases this; cases hd
  unfold keeperOf
  refine T_bind (T_get (part := none) e hn ?_)
  rw [hd]
  exact T_pure (h _)
theorem kp_fnL {f : Addr} {o : Obj} {cd : Value} {q : Str} {fd : FuncData} (e : (f, It.fn o cd q) ∈ L) (hd : o.data = .func fd) : Kp B L (.ref f) := fun n Q h A hA s S => by
  unfold keeperOf
  refine wpAny_bind (wpAny_load (S.its _ e).1 ?_)
  rw [hd]
  exact wpAny_pure ⟨L, S, h _⟩
theorem T_callWith {f : Value} {first : List Value} {args : List (Bool × Sem Value)} {kws : List (Option Str × Sem Value)} {Q : Value → Led → Prop}
    (h : T B n (evalArgs f true args kws) L fun a L₁ => Kp B L₁ f ∧ T B n (call f (first ++ a.pos) a.kw) L₁ Q) : T B n (callWith pos f first args kws) L Q := by
  unfold callWith
  refine T_bind (T_holding (T_mono h fun a L₁ h1 => T_bind (T_standAt ?_)))
  have tail : ∀ {t : Sem Value}, T B n t L₁ Q → T B n (t >>= fun r => holding [r] point >>= fun ι => pure r) L₁ Q := fun ht => T_bind (T_mono ht fun r s₂ hr => T_bind (T_holding (T_point (T_pure hr))))
  refine T_bind (h1.1 n _ fun k => ?_)
  have hk : ∀ mk, T B n (callMarked mk f (first ++ a.pos) a.kw) L₁ Q := fun mk => by unfold callMarked; exact T_keepv h1.2
  cases k <;> cases (args.any (·.1) || kws.any (·.1.isNone)) <;> dsimp only <;> first
    | exact tail h1.2
    | exact tail (hk _)
    | exact tail (T_operate h1.2)
    | (split <;> first | exact tail h1.2 | exact tail (hk _))
theorem T_args0 {f : Value} {Q : Args → Led → Prop} (h : Q ⟨[], []⟩ L) : T B n (evalArgs f true (backTo pos (starEach [] env)) (backToKw pos (keywordEach [] env))) L Q := by
  show T B n (evalArgs f true [] []) L Q
  unfold evalArgs
  refine T_bind (T_bind (T_pure ?_))
  refine T_pure (T_pure ?_)
  exact h
theorem T_args {f : Value} {e : Expr} {rest : List Expr} {Q : Args → Led → Prop} (he : starEach (e :: rest) env = (false, eval e env) :: starEach rest env)
    (h : T B n (spliced (backTo pos (starEach (e :: rest) env))) L fun vs L₁ => Q ⟨vs, []⟩ L₁) : T B n (evalArgs f true (backTo pos (starEach (e :: rest) env)) (backToKw pos (keywordEach [] env))) L Q := by
  rw [he] at h ⊢
  show T B n (evalArgs f true ((false, eval e env) :: backTo pos (starEach rest env)) []) L Q
  unfold evalArgs
  show T B n (spliced ((false, eval e env) :: backTo pos (starEach rest env)) >>= _) L Q
  exact T_bind (T_mono h fun vs L₁ h1 => T_holding (T_bind (T_pure (T_bind (T_pure (T_pure h1))))))
theorem T_CallName {id : Str} {p : Pos} {args : List Expr} {kws : List Keyword} {Q : Value → Led → Prop}
    (h : T B n (eval (.Name id p) env) L fun f L₁ => T B n (callWith pos f [] (backTo pos (starEach args env)) (backToKw pos (keywordEach kws env))) L₁ Q) : T B n (eval (.Call (.Name id p) args kws pos) env) L Q := by
  rw [arm_eval_Call_Name']
  exact T_bind h
theorem T_Call1 {id : Str} {p : Pos} {e : Expr} {rest : List Expr} {Q : Value → Led → Prop} (he : starEach (e :: rest) env = (false, eval e env) :: starEach rest env)
    (h : T B n (eval (.Name id p) env) L fun f L₁ => T B n (spliced (backTo pos (starEach (e :: rest) env))) L₁ fun vs L₂ => Kp B L₂ f ∧ T B n (call f vs []) L₂ Q) : T B n (eval (.Call (.Name id p) (e :: rest) [] pos) env) L Q :=
  T_CallName (T_mono h fun f L₁ h1 => T_callWith (T_args he (T_mono h1 fun vs L₂ h2 => h2)))
theorem T_CallMeth {o : Expr} {name : Str} {apos : Pos} {args : List Expr} {kws : List Keyword} {Q : Value → Led → Prop} (hb : attributeBase o name env (eval o env) = eval o env) (hp : (apos.endLine == pos.line) = true)
    (h : T B n (eval o env) L fun ov L₁ => T B n (calleeOf (methodCallForm (args.length + kws.length) (backTo pos (starEach args env)) (backToKw pos (keywordEach kws env))) o env ov name) L₁ fun p L₂ => T B n (callWith pos p.1 p.2 (backTo pos (starEach args env)) (backToKw pos (keywordEach kws env))) L₂ Q) :
    T B n (eval (.Call (.Attribute o name apos) args kws pos) env) L Q := by
  rw [arm_eval_Call, hb]
  refine T_bind (T_mono h fun ov L₁ h1 => T_bind (T_standAt ?_))
  unfold methodCall
  refine T_bind (T_holding (T_mono h1 fun q L₂ h2 => ?_))
  have e : methodCallPos (methodCallForm (args.length + kws.length) (backTo pos (starEach args env)) (backToKw pos (keywordEach kws env))) o env apos pos = pure pos := by
    unfold methodCallPos
    rw [hp, Bool.or_true]; rfl
  rw [e]
  exact T_bind (T_pure h2)
theorem T_Meth0 {o : Expr} {name : Str} {apos : Pos} {Q : Value → Led → Prop} (hb : attributeBase o name env (eval o env) = eval o env) (hp : (apos.endLine == pos.line) = true)
    (h : T B n (eval o env) L fun ov L₁ => T B n (calleeOf true o env ov name) L₁ fun p L₂ => Kp B L₂ p.1 ∧ T B n (call p.1 p.2 []) L₂ Q) :
    T B n (eval (.Call (.Attribute o name apos) [] [] pos) env) L Q :=
  T_CallMeth hb hp (T_mono h fun ov L₁ h1 => T_mono h1 fun p L₂ h2 => T_callWith (T_args0 ⟨h2.1, by rw [List.append_nil]; exact h2.2⟩))
theorem T_Meth1 {o e : Expr} {rest : List Expr} {name : Str} {apos : Pos} {Q : Value → Led → Prop} (hb : attributeBase o name env (eval o env) = eval o env) (hp : (apos.endLine == pos.line) = true) (he : starEach (e :: rest) env = (false, eval e env) :: starEach rest env)
    (hf : methodCallForm ((e :: rest).length + 0) (backTo pos (starEach (e :: rest) env)) (backToKw pos (keywordEach [] env)) = true)
    (h : T B n (eval o env) L fun ov L₁ => T B n (calleeOf true o env ov name) L₁ fun p L₂ => T B n (spliced (backTo pos (starEach (e :: rest) env))) L₂ fun vs L₃ => Kp B L₃ p.1 ∧ T B n (call p.1 (p.2 ++ vs) []) L₃ Q) :
    T B n (eval (.Call (.Attribute o name apos) (e :: rest) [] pos) env) L Q :=
  T_CallMeth hb hp (T_mono h fun ov L₁ h1 => by
    show T B n (calleeOf (methodCallForm ((e :: rest).length + 0) (backTo pos (starEach (e :: rest) env)) (backToKw pos (keywordEach [] env))) o env ov name) L₁ _
    rw [hf]
    exact T_mono h1 fun p L₂ h2 => T_callWith (T_args he (T_mono h2 fun vs L₃ h3 => h3)))
theorem T_getMeth {v : Value} {Ty : String} {name : Str} {id : String} {o : Expr} {Q : Value × List Value → Led → Prop} (hT : TyIs B L v Ty) (pa : PlainAttrs Ty) (slot : Slot Ty name id) (hty : typeOf (.builtin id) = pure (.type "method_descriptor"))
    (hd : ∀ s, St B L s → ∀ a, v = .ref a → ∃ o, s.heap.get? a = some o ∧ o.dict = none) (h : Q (.builtin id, [v]) L) : T B n (calleeOf true o env v name) L Q := fun A hA s S =>
  getMethod_builtin (hT s S) pa slot hty (hd s S) ⟨L, S, h⟩
theorem hd_ls {a : Addr} {vs : List Value} (h : (a, It.ls vs) ∈ L) : ∀ s, St B L s → ∀ b, Value.ref a = .ref b → ∃ o, s.heap.get? b = some o ∧ o.dict = none := fun s S b e => by
  cases e
  obtain ⟨_, e⟩ := S.its _ h
  exact ⟨_, e, rfl⟩
theorem hd_val {v : Value} (h : v.onHeap = false) : ∀ s, St B L s → ∀ b, v = .ref b → ∃ o, s.heap.get? b = some o ∧ o.dict = none := fun s S b e => by
  subst e; cases h
noncomputable def retOf : Flow → Value
  | .ret v => v
  | _ => .none
noncomputable def frame0 (binds : List (Str × Value)) (more : List Str) : List (Str × Option Value) := binds.reverse.map (fun y => (y.1, some y.2)) ++ more.map fun x => (x, none)
theorem frame0_lookup : ∀ (l : List (Str × Value)) (more : List Str) (x : Str), ((l.map (fun y => (y.1, some y.2)) ++ more.map fun x => (x, (none : Option Value))).lookup x).join = l.lookup x
  | [], more, x => by
    simp only [List.map_nil, List.nil_append, List.lookup_nil]
    induction more with
    | nil => rfl
    | cons y r ih =>
      rw [List.map_cons, List.lookup_cons]
      cases (x == y) <;> first | rfl | exact ih
  | (y, w) :: l, more, x => by
    rw [List.map_cons, List.cons_append, List.lookup_cons, List.lookup_cons]
    cases (x == y) with
    | true => rfl
    | false => exact frame0_lookup l more x
theorem St.code {s : Shared} (S : St B L s) {cd : Value} {q : Str} (h : B.h0.CodeRec cd q) : s.heap.CodeRec cd q := by
  obtain ⟨c, o, vs, t, e, ho, hd, hv⟩ := h
  refine ⟨c, o, vs, t, e, S.keep _ _ ho (fun r hr z => ?_), hd, hv⟩
  have := B.hd r hr
  have h2 := B.tab r hr
  rw [← z, ho] at h2
  cases h2; cases hd; simp at hv
theorem T_def {fo : Obj} {fd : FuncData} {f : Addr} {body : List Stmt} {args : List Value} {kw : List (Str × Value)} (binds : List (Str × Value)) (more : List Str) (ks : List (Str × NameKind)) (fr : List (Str × Option Value)) {Q : Value → Led → Prop}
    (ho : ∀ s, St B L s → s.heap.get? f = some fo) (hd : fo.data = .func fd) (hc : ∀ s, St B L s → s.heap.CodeRec fd.code fd.qualname) (hbody : fd.body = .stmts body) (hbind : bindArgs fd ⟨args, kw⟩ = pure binds)
    (hcell : (fd.scope.names.all fun x => x.2 != .cell) = true) (hloc : (binds.all fun x => fd.scope.names.lookup x.1 == some .local) = true)
    (hks : (ks.all fun p => fd.scope.names.lookup p.1 == some p.2 && !(p.1 == ("__debug__" : Str)) && !(p.1 == ("__classdict__" : Str))) = true) (hfr : frame0 binds more = fr) (hnd : decide (fr.map (·.1)).Nodup = true) (hcn : (fd.closure.map (·.1)).Nodup)
    (hg : fd.globals = mainGlobals) (hbi : fd.builtins = builtinsNs)
    (hco : fd.scope.isCoroutine = false) (hgen : fd.scope.isGenerator = false) (hk : fd.scope.kind = .function)
    (h : ∀ F env, EnvIs env ks F fd.closure → env.code = fd.code → env.qual = fd.qualname ++ ".<locals>." → T B n (execs body env) ((F, .ns fr) :: L) fun fl L' => Q (retOf fl) L') : T B (n + 1) (call (.ref f) args kw) L Q := T_call fun A hA s S => by
  subst hfr
  refine codeAny_call_def hA.room (ho s S) hd S.lim (hc s S) hbody (.of_eq hbind) (fun x hx => by simpa using List.all_eq_true.mp hcell x hx) (fun x hx => by simpa using List.all_eq_true.mp hloc x hx) (fun h₀ hns hkp => ?_) hco hgen hk
  have lt : s.heap.objs.size < h₀.objs.size := hns.lt
  have S₁ : St B ((s.heap.objs.size, .ns (frame0 binds more)) :: L) { s with heap := h₀ } := S.add hkp (Nat.le_of_lt lt) (Nat.le_refl _) ⟨by
    show h₀.Ns _ (fun x => ((frame0 binds more).lookup x).join)
    have : (fun x => ((frame0 binds more).lookup x).join) = fun x => binds.reverse.lookup x := funext fun x => frame0_lookup binds.reverse more x
    rw [this]; exact hns, of_decide_eq_true hnd⟩
  have hks' : ∀ p ∈ ks, fd.scope.names.lookup p.1 = some p.2 ∧ (p.1 == ("__debug__" : Str)) = false ∧ (p.1 == ("__classdict__" : Str)) = false := fun p hp => by
    have := List.all_eq_true.mp hks p hp
    simp only [Bool.and_eq_true, Bool.not_eq_true', beq_iff_eq] at this
    exact ⟨this.1.1, this.1.2, this.2⟩
  have E : EnvIs (callEnv fd s.heap.objs.size f) ks s.heap.objs.size fd.closure := ⟨hk, fun p hp => (hks' p hp).1, fun p hp => (hks' p hp).2, rfl, hg, hbi, rfl, hcn⟩
  refine wpAny_mono (h _ _ E rfl rfl _ hA.deeper _ (S₁.toks (t := s.toks + binds.length) (Nat.le_add_right_of_le S₁.size))) (fun fl s' ⟨L', S', h'⟩ => ?_) fun ι ι x => x.elim
  refine ⟨_, L', rfl, S', retOf fl, ?_, h'⟩
  cases fl <;> rfl
end
section
variable {B : Bg} {n : Nat} {α β : Type} {L L' L₁ : Led} {env : Env} {ks : List (Str × NameKind)} {F : Addr} {cl : List (Str × Addr)} {x : Str} {pos : Pos} {m m' : List (Str × Option Value)} {v : Value} {c : Addr}
theorem T_int1 {t : Sem Value} {i : Int} {Q : Value → Led → Prop}
    (h0 : ∀ A E s (Q : Value → Shared → Prop), Q (.int i s.toks) { s with toks := s.toks + 1 } → wpAny (model B.prog B.w) A t Q E s) (h : ∀ k, Q (.int i k) L) : T B n t L Q := fun A hA s S => h0 _ _ _ _ ⟨L, S.tp, h _⟩
theorem T_val {t : Sem α} {v : α} {Q : α → Led → Prop} (h0 : ∀ A E s (Q : α → Shared → Prop), Q v s → wpAny (model B.prog B.w) A t Q E s) (h : Q v L) : T B n t L Q := fun A hA s S => h0 _ _ _ _ ⟨L, S, h⟩
variable {a b : Int} {t u : Tok} {Q : Value → Led → Prop}
theorem T_add (h : ∀ k, Q (.int (a + b) k) L) : T B n (binaryOp .Add (.int a t) (.int b u)) L Q := T_int1 (fun ι ι ι ι h => wpAny_add_int h) h
theorem T_sub (h : ∀ k, Q (.int (a - b) k) L) : T B n (binaryOp .Sub (.int a t) (.int b u)) L Q := T_int1 (fun ι ι ι ι h => P.sub_int h) h
theorem T_iadd (h : ∀ k, Q (.int (a + b) k) L) : T B n (inplaceOp .Add (.int a t) (.int b u)) L Q := T_int1 (fun ι ι ι ι h => wpAny_iadd_int h) h
theorem T_isub (h : ∀ k, Q (.int (a - b) k) L) : T B n (inplaceOp .Sub (.int a t) (.int b u)) L Q := T_int1 (fun ι ι ι ι h => P.isub_int h) h
theorem T_mul (hm : IntMulOk a b) (h : ∀ k, Q (.int (a * b) k) L) : T B n (binaryOp .Mult (.int a t) (.int b u)) L Q := T_int1 (fun ι ι ι ι h => P.mul_int h hm) h
theorem T_fdiv (hb : b ≠ 0) (hp : Builtin.divisionGoesByPylong a b = false) (h : ∀ k, Q (.int (a.fdiv b) k) L) : T B n (binaryOp .FloorDiv (.int a t) (.int b u)) L Q := T_int1 (fun ι ι ι ι h => PyProof.Rows.floordiv_int hb h (.inl hp)) h
theorem T_ifdiv (hb : b ≠ 0) (hp : Builtin.divisionGoesByPylong a b = false) (h : ∀ k, Q (.int (a.fdiv b) k) L) : T B n (inplaceOp .FloorDiv (.int a t) (.int b u)) L Q := T_int1 (fun ι ι ι ι h => PyProof.Rows.ifloordiv_int hb h (.inl hp)) h
theorem T_fmod (hb : b ≠ 0) (h : ∀ k, Q (.int (a.fmod b) k) L) : T B n (binaryOp .Mod (.int a t) (.int b u)) L Q := T_int1 (fun ι ι ι ι h => PyProof.Rows.mod_int' hb h) h
theorem T_shl (h0 : 0 ≤ b) (h1 : b ≤ 1000000) (ha : a.natAbs < 2 ^ 64) (h : ∀ k, Q (.int (a * 2 ^ b.toNat) k) L) : T B n (binaryOp .LShift (.int a t) (.int b u)) L Q := T_int1 (fun ι ι ι ι h => PyProof.Rows.lshift_int_small h0 h1 ha h) h
theorem T_and (h : ∀ k, Q (.int (Builtin.bitAnd a b) k) L) : T B n (binaryOp .BitAnd (.int a t) (.int b u)) L Q := T_int1 (fun ι ι ι ι h => PyProof.Rows.and_int h) h
theorem T_ixor (h : ∀ k, Q (.int (Builtin.bitXor a b) k) L) : T B n (inplaceOp .BitXor (.int a t) (.int b u)) L Q := T_int1 (fun ι ι ι ι h => PyProof.Rows.ixor_int h) h
theorem T_neg (h : ∀ k, Q (.int (-a) k) L) : T B n (unaryOp .USub (.int a t)) L Q := T_int1 (fun ι ι ι ι h => P.neg_int h) h
theorem T_inv (h : ∀ k, Q (.int (Builtin.bitNot a) k) L) : T B n (unaryOp .Invert (.int a t)) L Q := T_int1 (fun ι ι ι ι h => PyProof.Rows.invert_int h) h
theorem T_lt (h : Q (.bool (decide (a < b))) L) : T B n (compareOp .Lt (.int a t) (.int b u)) L Q := T_val (fun ι ι ι ι h => P.lt_int h) h
theorem T_lte (h : Q (.bool (decide (a ≤ b))) L) : T B n (compareOp .LtE (.int a t) (.int b u)) L Q := T_val (fun ι ι ι ι h => P.le_int h) h
theorem T_eq (h : Q (.bool (a == b)) L) : T B n (compareOp .Eq (.int a t) (.int b u)) L Q := T_val (fun ι ι ι ι h => wpAny_eq_int h) h
theorem T_neq (h : Q (.bool (a != b)) L) : T B n (compareOp .NotEq (.int a t) (.int b u)) L Q := T_val (fun ι ι ι ι h => P.ne_int h) h
theorem T_t_int {Q : Bool → Led → Prop} (h : Q (a != 0) L) : T B n (truthy (.int a t)) L Q := T_val (fun ι ι ι ι h => P.truthy_int h) h
noncomputable def LoopQ (B : Bg) (Q : Flow → Led → Prop) (J : Led → Prop) : Flow → Led → Prop
  | .next, L => J L
  | .cont, L => J L
  | .brk, L => Q .next L
  | .ret v, L => Q (.ret v) L
theorem notedBy_false {M : Model} {A : Around} {E : Value → Shared → Prop} {env : Env} (v : Value) (s : Shared) (h : False) : notedBy M A env E v s := h.elim
theorem Tc_for {target : Expr} {it : Value} {body orelse : List Stmt} {Q : Flow → Led → Prop} (I : Nat → Led → Prop)
    (turn : ∀ k L, I k L → T B n (pyNext it) L fun r L₁ => match r with
      | none => T B n (execs orelse env) L₁ Q
      | some v => T B n (letOwnedTupleGo target it v) L₁ fun ι L₂ => T B n (assign target env v) L₂ fun ι L₃ => T B n (execs body env) L₃ (LoopQ B Q fun L₄ => ∃ m L₅, m < k ∧ Pick L₅ L₄ ∧ I m L₅))
    (k : Nat) (h : I k L) : Tc B n (.forLoop target it body orelse env) L Q := fun A hA s S => by
  refine codeAny_forLoop_any (I := fun k s => ∃ L, St B L s ∧ I k L) (fun k s ⟨L, S, hI⟩ => ?_) k ⟨L, S, h⟩
  refine wpAny_mono (turn k L hI A hA s S) (fun r s₁ ⟨L₁, S₁, h1⟩ => ?_) notedBy_false
  cases r with
  | none => exact wpAny_mono (h1 A hA s₁ S₁) (fun f s₂ ⟨L₂, S₂, h2⟩ => ⟨f, L₂, rfl, S₂, h2⟩) notedBy_false
  | some v =>
    refine wpAny_mono (h1 A hA s₁ S₁) (fun _ s₂ ⟨L₂, S₂, h2⟩ => ?_) notedBy_false
    refine wpAny_mono (h2 A hA s₂ S₂) (fun _ s₃ ⟨L₃, S₃, h3⟩ => ?_) notedBy_false
    refine wpAny_mono (h3 A hA s₃ S₃) (fun f s₄ ⟨L₄, S₄, h4⟩ => ?_) notedBy_false
    cases f with
    | next => obtain ⟨m, L₅, hm, hp, hI⟩ := h4; exact ⟨m, hm, L₅, S₄.pick hp, hI⟩
    | cont => obtain ⟨m, L₅, hm, hp, hI⟩ := h4; exact ⟨m, hm, L₅, S₄.pick hp, hI⟩
    | brk => exact ⟨_, L₄, rfl, S₄, h4⟩
    | ret v => exact ⟨_, L₄, rfl, S₄, h4⟩
theorem T_s_For {target iter : Expr} {body orelse rest : List Stmt} {Q : Flow → Led → Prop} (hs : ∀ x, foldedSetIterable iter env x = pure x)
    (h : T B n (eval iter env) L fun x L₁ => T B n (pyIter x) L₁ fun it L₂ => Tc B n (.forLoop target it body orelse env) L₂ (Seq B n rest env Q)) : T B n (execs (.For target iter body orelse pos :: rest) env) L Q := by
  refine T_seq ?_
  rw [exec_For]
  refine T_bind (T_standAt (T_bind (T_mono h fun x L₁ h1 => ?_)))
  rw [hs]
  exact T_bind (T_pure (T_bind (T_standAt (T_bind (T_holding (T_mono h1 fun it L₂ h2 => T_runOwn h2))))))
theorem T_assignName {px : Pos} {Q : Unit → Led → Prop} (h : T B n (storeName env x v) L Q) : T B n (assign (.Name x px) env v) L Q := by
  rw [PySem.assign_Name]; exact T_bind (T_standAt (T_bindName h))
noncomputable abbrev lsIter (l : Addr) (i : Nat) : It := flds "list_iterator" [.ref l, .int i 0]
theorem T_iter_ls {l : Addr} {vs : List Value} {Q : Value → Led → Prop} (hm : (l, It.ls vs) ∈ L) (h : ∀ it, Q (.ref it) ((it, lsIter l 0) :: L)) : T B (n + 1) (pyIter (.ref l)) L Q := fun A hA s S => by
  have hl := (show s.heap.PlainList l vs.toArray from S.its _ hm).isList
  refine wpAny_pyIter_slot hl.typeIs slot_list_iter (wpAny_call_entry slot_list_iter hl.typeIs entry_list_iter ?_ (args_list_iter _))
  show wpAny _ _ (newFields "list_iterator" [.ref l, rawInt 0] >>= fun v => ret v) _ _ s
  refine wpAny_bind (wpAny_newObj_type ?_ (by size_fits))
  have S' := S.push (o := { cls := .type "list_iterator", data := .fields ([.ref l, rawInt 0] : List Value).toArray }) (it := lsIter l 0) rfl (fun h' e => e)
  exact wpAny_pure ⟨_, rfl, "list_iterator", _, ⟨_, Heap.get?_push_size _ rfl, rfl⟩, slot_listiter_next.lookup, ⟨_, S', h _⟩⟩
theorem T_next_ls {l it : Addr} {i : Nat} {vs : List Value} {x : Value} {Q : Option Value → Led → Prop} (hr : Rem (it, lsIter l i) L L₁) (hm : (l, It.ls vs) ∈ L₁) (hx : vs[i]? = some x) (h : Q (some x) ((it, lsIter l (i + 1)) :: L₁)) : T B (n + 1) (pyNext (.ref it)) L Q := fun A hA s S => by
  have S₁ := S.rem hr
  have hit := S₁.its _ (.head _)
  have ho : s.heap.get? it = some { cls := .type "list_iterator", data := .fields ([.ref l, .int i 0] : List Value).toArray } := hit
  obtain ⟨nl, hol⟩ := S₁.its _ (.tail _ hm)
  have hI : s.heap.IsListIter it l i := ⟨_, ho, rfl, rfl⟩
  unfold pyNext
  refine wpAny_bind (wpAny_attempt (wpAny_callSpecial?_slot (name := Str.ofString "__next__") hI.typeIs slot_listiter_next
    (wpAny_call_entry slot_listiter_next hI.typeIs entry_listiter_next ?_ (args_listiter_next _))))
  show wpAny _ _ (field (.ref it) 0 >>= _) _ _ s
  refine wpAny_bind (wpAny_field ho rfl (x := .ref l) rfl ?_)
  show wpAny _ _ (if (Value.ref l == Value.none) = true then _ else _) _ _ s
  rw [if_neg (show ¬ ((Value.ref l == Value.none) = true) from Bool.false_ne_true)]
  show wpAny _ _ (field (.ref it) 1 >>= _) _ _ s
  refine wpAny_bind (wpAny_field ho rfl (x := .int i 0) rfl ?_)
  show wpAny _ _ (seqItems? (.ref l) >>= _) _ _ s
  refine wpAny_bind (wpAny_seqItems hol rfl ?_)
  have hx' : vs.toArray[i]? = some x := by simpa using hx
  simp only [Int.toNat_natCast, hx']
  refine wpAny_bind (wpAny_setField ho rfl (by simp) (wpAny_pure ⟨x, rfl, wpAny_pure ⟨_, S₁.upd (Heap.SameBut.update ..) rfl ?_, h⟩⟩))
  exact (Heap.get?_update_self _ ho rfl).trans rfl
theorem T_end_ls {l it : Addr} {i : Nat} {vs : List Value} {Q : Option Value → Led → Prop} (hr : Rem (it, lsIter l i) L L₁) (hm : (l, It.ls vs) ∈ L₁) (hx : vs[i]? = none) (h : Q none L₁) : T B (n + 1) (pyNext (.ref it)) L Q := fun A hA s S => by
  have S₁ := S.rem hr
  have ho : s.heap.get? it = some { cls := .type "list_iterator", data := .fields ([.ref l, .int i 0] : List Value).toArray } := S₁.its _ (.head _)
  have hl := (show s.heap.PlainList l vs.toArray from S₁.its _ (.tail _ hm)).isList
  exact wpAny_pyNext_list_end hA.1 ⟨_, ho, rfl, rfl⟩ hl (by simpa using hx) fun h' hs => ⟨_, S₁.ext hs rfl (List.ne_nil_of_mem hm), h⟩
theorem Tc_for_ls {target : Expr} {l it : Addr} {vs : List Value} {body orelse : List Stmt} {Q : Flow → Led → Prop} (Inv : List Value → Led → Prop) (hl : ∀ rest L, Inv rest L → (l, It.ls vs) ∈ L)
    (ht : ∀ it v, letOwnedTupleGo target it v = pure ())
    (turn : ∀ (ia : Addr) (X : It) (x : Value) (rest : List Value) (L : Led), Inv (x :: rest) L → T B (n + 1) (assign target env x) ((ia, X) :: L) fun ι L₁ => T B (n + 1) (execs body env) L₁ (LoopQ B Q fun L₂ => ∃ L₃, Pick ((ia, X) :: L₃) L₂ ∧ Inv rest L₃))
    (fin : ∀ L, Inv [] L → T B (n + 1) (execs orelse env) L Q) {L₀ : Led} (hr : Rem (it, lsIter l 0) L L₀) (h : Inv vs L₀) : Tc B (n + 1) (.forLoop target (.ref it) body orelse env) L Q := by
  refine Tc_rem hr (Tc_for (fun k L => ∃ i L₀ r, L = (it, lsIter l i) :: L₀ ∧ vs = vs.take i ++ r ∧ k = r.length ∧ Inv r L₀) ?_ vs.length ⟨0, L₀, vs, rfl, by simp, rfl, h⟩)
  rintro k L' ⟨i, L₀, r, rfl, hv, hk, hI⟩
  have hd : r = vs.drop i := by
    have := List.take_append_drop i vs
    exact (List.append_cancel_left (this.trans hv)).symm
  cases r with
  | nil =>
    exact T_end_ls .head (hl _ _ hI) (List.getElem?_eq_none (List.drop_eq_nil_iff.mp hd.symm)) (fin _ hI)
  | cons y r =>
    have hx : vs[i]? = some y := by
      have : (vs.drop i)[0]? = some y := by rw [← hd]; rfl
      simpa using this
    have hlt : i < vs.length := (List.getElem?_eq_some_iff.mp hx).1
    refine T_next_ls .head (hl _ _ hI) hx ?_
    show T B (n + 1) (letOwnedTupleGo target (.ref it) y) _ _
    rw [ht]
    refine T_pure ?_
    refine T_mono (turn it (lsIter l (i + 1)) y r L₀ hI) fun ι L₁ h1 => T_mono h1 fun f L₂ h2 => ?_
    have key : ∀ L₂, (∃ L₃, Pick ((it, lsIter l (i + 1)) :: L₃) L₂ ∧ Inv r L₃) → ∃ m L₅, m < k ∧ Pick L₅ L₂ ∧ ∃ i L₀ r, L₅ = (it, lsIter l i) :: L₀ ∧ vs = vs.take i ++ r ∧ m = r.length ∧ Inv r L₀ := fun L₂ ⟨L₃, hp, hI'⟩ =>
      ⟨r.length, _, by rw [hk]; exact Nat.lt_succ_self _, hp, i + 1, L₃, r, rfl, by
        have e : r = vs.drop (i + 1) := by rw [← List.drop_drop, ← hd]; rfl
        rw [e, List.take_append_drop], rfl, hI'⟩
    cases f with
    | next => exact key _ h2
    | cont => exact key _ h2
    | brk => exact h2
    | ret v => exact h2
end
theorem triples_not_code {ps : List Value} (h : TriplesOk ps) {q : Str} {t : Tok} : ps[1]? ≠ some (.str q t) := by
  intro e
  match ps, h with
  | [], _ => cases e
  | .int _ _ :: .int _ _ :: _ :: _, _ => cases e
theorem triples_snoc {c : Value} {a b : Int} : ∀ {ps : List Value}, TriplesOk ps → TriplesOk (ps ++ [rawInt a, rawInt b, c])
  | [], _ => trivial
  | .int _ _ :: .int _ _ :: _ :: r, h => triples_snoc (ps := r) h
set_option tactic.hygienic true in
theorem among_snoc {c cv : Value} {a b : Int} {pos : Pos} : ∀ {ps : List Value}, TriplesOk ps → codeAmong pos (ps ++ [rawInt a, rawInt b, c]) = some cv → codeAmong pos ps = some cv ∨ cv = c
  | [], _, e => by
    simp only [List.nil_append, codeAmong, rawInt] at e
    split at e
    · exact .inr (Option.some.inj e).symm
    · cases e
  | .int l _ :: .int k _ :: x :: r, h, e => by
    simp only [List.cons_append, codeAmong] at e ⊢
    split at e
    · rename_i q; rw [if_pos q]; exact .inl e
    · rename_i q; rw [if_neg q]; exact among_snoc (ps := r) h e
section
variable {B : Bg} {n : Nat} {α β : Type} {L L' L₁ : Led} {env : Env} {ks : List (Str × NameKind)} {F : Addr} {cl : List (Str × Addr)} {x : Str} {pos : Pos} {m m' : List (Str × Option Value)} {v : Value} {c : Addr}
theorem St.table {s : Shared} {t : TabRec} {ps : Array Value} {h' : Heap} {c' : Addr} {a b : Int} (S : St B L s) (ht : t ∈ B.tabs) (hP : s.heap.get? t.P = some (tabObj ps)) (htr : TriplesOk ps.toList)
    (hok : ∀ pos cv, codeAmong pos ps.toList = some cv → s.heap.CodeRec cv t.q) (hx : Heap.ExtBut t.P s.heap h') (hz : s.heap.objs.size ≤ h'.objs.size) (hrec : h'.CodeRec (.ref c') t.q)
    (htb : h'.get? t.P = some (tabObj (ps ++ #[rawInt a, rawInt b, .ref c']))) : St B L { s with heap := h' } := by
  have hnc : ¬ isCodeRec s.heap t.P := by
    rintro ⟨o, vs, q, tk, ho, hd, hv, _⟩
    rw [hP] at ho; cases ho; cases hd
    exact triples_not_code htr (by simpa using hv)
  have hlt := Heap.lt_size (B.tab t ht)
  have hCd := B.hd t ht
  have hCs : CodeHd s.heap t.c t.P := by
    obtain ⟨o, vs, file, tf, flags, tg, inF, text, tt, e, r1, r⟩ := hCd
    exact ⟨o, vs, file, tf, flags, tg, inF, text, tt, S.keep _ _ e (fun r hr z => by
      have := B.tab r hr
      rw [← z, e] at this; cases this; cases r1), r1, r⟩
  have hC' : CodeHd h' t.c t.P := by
    obtain ⟨o, vs, file, tf, flags, tg, inF, text, tt, e, r1, r⟩ := hCs
    exact ⟨o, vs, file, tf, flags, tg, inF, text, tt, hx _ _ r.2.2.2.2.2.2.2 e, r1, r⟩
  refine ⟨fun b o e nt => hx _ _ (nt t ht) (S.keep b o e nt), fun r hr => ?_, fun p hp => (S.its p hp).but hnc hx fun z => ?_, S.nd, S.lo, S.size, ?_, S.gens, S.os⟩
  · by_cases e : r.P = t.P
    · have := B.tnd r hr t ht e
      subst this
      refine ⟨_, htb, by simpa using triples_snoc htr, fun pos cv hcv => ?_⟩
      rw [Array.toList_append] at hcv
      rcases among_snoc htr hcv with q | q
      · exact codeRec_but (hok pos cv q) (B.tq _ ht) hnc hx
      · subst q; exact hrec
    · obtain ⟨ps', e', h1, h2⟩ := S.tab r hr
      exact ⟨ps', hx _ _ e e', h1, fun pos cv q => codeRec_but (h2 pos cv q) (B.tq r hr) hnc hx⟩
  · have := S.lo p hp
    rw [z, B.tab t ht] at this
    cases this
  · refine S.old.step_table (c₀ := t.c) (c := t.c) (P := t.P) (ps₀ := #[]) (ps := ps) (more := #[rawInt a, rawInt b, .ref c']) (hCd.tab (B.tab t ht)) (hCs.tab hP) (hC'.tab htb) hx fun z => ?_
    obtain ⟨mc, ⟨o, es, ep, ho, hd, _⟩, _⟩ := B.lim
    have := B.tab t ht
    rw [z, ho] at this; cases this; cases hd
noncomputable def closL : List (Str × NameKind) → List (Str × Addr) → List (Str × Addr) → Option (List (Str × Addr))
  | [], _, acc => some acc
  | (x, k) :: r, cl, acc => if k == .free then (match cl.lookup x with | some a => closL r cl ((x, a) :: acc) | none => none) else closL r cl acc
theorem closure_is {scope : Scope} {out : List (Str × Addr)} (E : EnvIs env ks F cl) (h : closL scope.names cl [] = some out) : closureFor scope env = pure out := by
  have key : ∀ (l : List (Str × NameKind)) (acc : List (Str × Addr)), closL l cl acc = some out → (forIn l acc fun x cs => match x with | (name, kind) => (if (kind == NameKind.free) = true then do let a ← cellOf env name; pure (.yield ((name, a) :: cs)) else pure (.yield cs) : Sem (ForInStep (List (Str × Addr))))) = pure out := by
    intro l
    induction l with
    | nil => intro acc h; cases h; rfl
    | cons y r ih =>
      intro acc h
      obtain ⟨x, k⟩ := y
      rw [List.forIn_cons]
      unfold closL at h
      dsimp only
      by_cases hk : (k == NameKind.free) = true
      · rw [if_pos hk] at h ⊢
        cases hc : cl.lookup x with
        | none => rw [hc] at h; cases h
        | some a =>
          rw [hc] at h
          have : cellOf env x = pure a := by unfold cellOf; rw [E.cells, hc]
          rw [this]
          exact ih _ h
      · rw [if_neg hk] at h ⊢
        exact ih _ h
  unfold closureFor
  have := key scope.names [] h
  refine Eq.trans ?_ this
  show (forIn scope.names [] _ >>= fun r => pure r) = _
  exact bind_pure _
theorem St.bAt {s : Shared} (S : St B L s) {t : TabRec} (ht : t ∈ B.tabs) : s.heap.BuiltinsAt B.mg t.P := by
  obtain ⟨bm, ob, b1, b2, b3, b4, b5, b6⟩ := B.bm
  have hbP : ∀ r ∈ B.tabs, bm ≠ r.P := fun r hr q => by
    have e := B.tab r hr
    rw [← q, b3] at e; cases e; cases b4
  have hbG : bm ≠ mainGlobals := fun q => by
    obtain ⟨o, es, ep, e, hd, _⟩ := B.g
    rw [q, e] at b3; cases b3; rw [hd] at b6; cases b6
  exact ⟨bm, ob, b1, b2, hbG, hbP t ht, S.keep _ _ b3 hbP, b4, b5, b6⟩
theorem glob_ne_tab {t : TabRec} (ht : t ∈ B.tabs) : mainGlobals ≠ t.P := fun q => by
  obtain ⟨o, es, ep, e, hd, _⟩ := B.g
  have := B.tab t ht
  rw [← q, e] at this; cases this; cases hd
theorem St.hdr {s : Shared} (S : St B L s) {t : TabRec} (ht : t ∈ B.tabs) : CodeHd s.heap t.c t.P := by
  obtain ⟨o, vs, file, tf, flags, tg, inF, text, tt, e, r1, r⟩ := B.hd t ht
  exact ⟨o, vs, file, tf, flags, tg, inF, text, tt, S.keep _ _ e (fun r hr z => by
    have := B.tab r hr
    rw [← z, e] at this; cases this; cases r1), r1, r⟩
noncomputable abbrev madeFn (B : Bg) (name qual : Str) (params : Arguments) (body : FuncBody) (scope : Scope) (clos : List (Str × Addr)) (doc cd ct : Value) : FuncData :=
  { name, qualname := qual, params, body, scope, globals := mainGlobals, closure := clos, defaults := .none, kwdefaults := .none, doc, pyModule := (B.mg "__name__").getD .none, annotations := none, code := cd, closureTuple := ct, builtins := builtinsNs }
theorem T_makeFn {name qual : Str} {params : Arguments} {body : List Stmt} {scope : Scope} {clos : List (Str × Addr)} {ln : Nat} {t : TabRec} {Q : Value → Led → Prop} (E : EnvIs env ks F cl) (ht : t ∈ B.tabs) (hcode : env.code = .ref t.c) (hq : qual = t.q)
    (hcl : closL scope.names cl [] = some clos)
    (h : ∀ f cd ct doc, Q (.ref f) ((f, .fn { cls := .type "function", data := .func (madeFn B name qual params (.stmts body) scope clos doc cd ct) } cd qual) :: L)) : T B n (makeFunction name qual params (.stmts body) scope env [] [] [] pos ln) L Q := fun A hA s S => by
  obtain ⟨ps, hP, htr, hok⟩ := S.tab t ht
  have hcl' := closure_is E hcl
  have hg : s.heap.Ns mainGlobals B.mg := S.nsOld B.g
  cases hc : codeAmong pos ps.toList with
  | none =>
    refine S.up (makeFunction_K (mg := B.mg) hcl' E.glob hg hcode (S.hdr ht) hP htr hc (glob_ne_tab ht) (S.bAt ht) fun c' ctv doc h' tk hx hge hlt hrec htb htk => ?_)
    have hz : s.heap.objs.size ≤ h'.objs.size := Nat.le_of_lt (Nat.lt_of_le_of_lt hge hlt)
    have S' := S.table ht hP htr hok hx hz (hq ▸ hrec) htb
    refine ⟨_, (S'.add (a := h'.objs.size) (it := .fn { cls := .type "function", data := .func (madeFn B name qual params (.stmts body) scope clos doc (.ref c') ctv) } (.ref c') qual) (fun ι ι e => Heap.get?_push_of_some _ e) (by rw [Heap.size_push]; exact Nat.le_succ _) (Nat.le_refl _) ⟨Heap.get?_push_size _ rfl, ?_, hq ▸ B.tq t ht⟩).toks (t := tk) (by assumption), h _ _ _ _⟩
    exact hrec.keeps fun ι ι e => Heap.get?_push_of_some _ e
  | some cv =>
    refine S.up (makeFunction_hit (mg := B.mg) hcl' E.glob hg hcode (S.hdr ht) hP htr hc (S.bAt ht) fun ctv doc h' tk hk hz htk => ?_)
    have S' := S.grow hk hz
    refine ⟨_, (S'.add (a := h'.objs.size) (it := .fn { cls := .type "function", data := .func (madeFn B name qual params (.stmts body) scope clos doc cv ctv) } cv qual) (fun ι ι e => Heap.get?_push_of_some _ e) (by rw [Heap.size_push]; exact Nat.le_succ _) (Nat.le_refl _) ⟨Heap.get?_push_size _ rfl, ?_, hq ▸ B.tq t ht⟩).toks (t := tk) (by assumption), h _ _ _ _⟩
    exact hq ▸ ((hok pos cv hc).keeps hk).keeps fun ι ι e => Heap.get?_push_of_some _ e
end
section
variable {B : Bg} {n : Nat} {α β : Type} {L L' L₁ : Led} {env : Env} {ks : List (Str × NameKind)} {F : Addr} {cl : List (Str × Addr)} {x : Str} {pos : Pos} {m m' : List (Str × Option Value)} {v : Value} {c : Addr}
theorem T_s_Def {name : Str} {params : Arguments} {body rest : List Stmt} {scope : Scope} {clos : List (Str × Addr)} {t : TabRec} {Q : Flow → Led → Prop} (E : EnvIs env ks F cl) (ht : t ∈ B.tabs) (hcode : env.code = .ref t.c) (hq : qualnameIn env name name = t.q)
    (hd0 : params.defaults = []) (hk0 : params.kw_defaults = []) (ha : annTrees params none env = []) (hcl : closL scope.names cl [] = some clos)
    (h : ∀ f cd ct doc, T B n (storeName env name (.ref f)) ((f, .fn { cls := .type "function", data := .func (madeFn B name t.q params (.stmts body) scope clos doc cd ct) } cd t.q) :: L) fun ι L₂ => T B n (execs rest env) L₂ Q) :
    T B n (execs (.FunctionDef name params body [] none [] scope none name pos :: rest) env) L Q := T_seq fun A hA s S => by
  refine nestDef_K hd0 hk0 ha ?_
  rw [hq]
  refine wpAny_mono (T_makeFn (Q := fun v L₂ => T B n (storeName env name v) L₂ fun ι L₂ => T B n (execs rest env) L₂ Q) E ht hcode rfl hcl (fun f cd ct doc => h f cd ct doc) A hA s S) (fun v s' ⟨L', S', h'⟩ => ?_) fun ι ι x => x
  exact wpAny_mono (h' A hA s' S') (fun _ s'' ⟨L'', S'', h''⟩ => ⟨L'', S'', h''⟩) fun ι ι x => x
theorem T_Lambda {params : Arguments} {body : Expr} {scope : Scope} {clos : List (Str × Addr)} {t : TabRec} {Q : Value → Led → Prop} (E : EnvIs env ks F cl) (ht : t ∈ B.tabs) (hcode : env.code = .ref t.c) (hq : env.qual ++ "<lambda>" = t.q)
    (hdef : defaultsOf params env = ([], [])) (hcl : closL scope.names cl [] = some clos)
    (h : ∀ f cd ct, Q (.ref f) ((f, .fn { cls := .type "function", data := .func (madeFn B "<lambda>" t.q params (.expr body) scope clos .none cd ct) } cd t.q) :: L)) : T B n (eval (.Lambda params body scope pos) env) L Q := fun A hA s S => by
  refine kla_eval hdef ?_
  rw [hq]
  obtain ⟨ps, hP, htr, hok⟩ := S.tab t ht
  have hcl' := closure_is E hcl
  have hg : s.heap.Ns mainGlobals B.mg := S.nsOld B.g
  cases hc : codeAmong pos ps.toList with
  | none =>
    refine S.up (kla_makeFunction (mg := B.mg) hcl' E.glob hg hcode (S.hdr ht) hP htr hc (glob_ne_tab ht) (S.bAt ht) fun c' ctv h' tk hx hge hlt hrec htb htk => ?_)
    have hz : s.heap.objs.size ≤ h'.objs.size := Nat.le_of_lt (Nat.lt_of_le_of_lt hge hlt)
    have S' := S.table ht hP htr hok hx hz hrec htb
    refine ⟨_, (S'.add (a := h'.objs.size) (it := .fn { cls := .type "function", data := .func (madeFn B "<lambda>" t.q params (.expr body) scope clos .none (.ref c') ctv) } (.ref c') t.q) (fun ι ι e => Heap.get?_push_of_some _ e) (by rw [Heap.size_push]; exact Nat.le_succ _) (Nat.le_refl _) ⟨Heap.get?_push_size _ rfl, ?_, B.tq t ht⟩).toks (t := tk) (by assumption), h _ _ _⟩
    exact hrec.keeps fun ι ι e => Heap.get?_push_of_some _ e
  | some cv =>
    refine S.up (kla_makeFunctionHit (mg := B.mg) hcl' E.glob hg hcode (S.hdr ht) hP htr hc (S.bAt ht) fun ctv h' tk hk hz htk => ?_)
    have S' := S.grow hk hz
    refine ⟨_, (S'.add (a := h'.objs.size) (it := .fn { cls := .type "function", data := .func (madeFn B "<lambda>" t.q params (.expr body) scope clos .none cv ctv) } cv t.q) (fun ι ι e => Heap.get?_push_of_some _ e) (by rw [Heap.size_push]; exact Nat.le_succ _) (Nat.le_refl _) ⟨Heap.get?_push_size _ rfl, ?_, B.tq t ht⟩).toks (t := tk) (by assumption), h _ _ _⟩
    exact ((hok pos cv hc).keeps hk).keeps fun ι ι e => Heap.get?_push_of_some _ e
theorem T_lam {fo : Obj} {fd : FuncData} {f : Addr} {body : Expr} {args : List Value} {kw : List (Str × Value)} (binds : List (Str × Value)) (more : List Str) (ks : List (Str × NameKind)) (fr : List (Str × Option Value)) {Q : Value → Led → Prop}
    (ho : ∀ s, St B L s → s.heap.get? f = some fo) (hd : fo.data = .func fd) (hc : ∀ s, St B L s → s.heap.CodeRec fd.code fd.qualname) (hbody : fd.body = .expr body) (hbind : bindArgs fd ⟨args, kw⟩ = pure binds)
    (hcell : (fd.scope.names.all fun x => x.2 != .cell) = true) (hloc : (binds.all fun x => fd.scope.names.lookup x.1 == some .local) = true)
    (hks : (ks.all fun p => fd.scope.names.lookup p.1 == some p.2 && !(p.1 == ("__debug__" : Str)) && !(p.1 == ("__classdict__" : Str))) = true) (hfr : frame0 binds more = fr) (hnd : decide (fr.map (·.1)).Nodup = true) (hcn : (fd.closure.map (·.1)).Nodup)
    (hg : fd.globals = mainGlobals) (hbi : fd.builtins = builtinsNs)
    (hco : fd.scope.isCoroutine = false) (hgen : fd.scope.isGenerator = false) (hk : fd.scope.kind = .function)
    (h : ∀ F env, EnvIs env ks F fd.closure → T B n (eval body env) ((F, .ns fr) :: L) Q) : T B (n + 1) (call (.ref f) args kw) L Q := T_call fun A hA s S => by
  subst hfr
  refine kla_callFunE hA.room (ho s S) hd hco hgen hbody (hc s S) ?_
  rw [hbind]
  refine wpAny_pure (wpAny_newFunctionEnv (fun x hx => by simpa using List.all_eq_true.mp hcell x hx) (fun x hx => by simpa using List.all_eq_true.mp hloc x hx) (fun h₀ hns hsb => ⟨S.lim.fresh _ hsb, ?_⟩) hk)
  have hkp : ∀ b o, s.heap.get? b = some o → h₀.get? b = some o := fun b o e => hsb.extBut b o (Nat.ne_of_lt (Heap.lt_size e)) (Heap.get?_push_of_some _ e)
  have lt : s.heap.objs.size < h₀.objs.size := hns.lt
  have S₁ : St B ((s.heap.objs.size, .ns (frame0 binds more)) :: L) { s with heap := h₀ } := S.add hkp (Nat.le_of_lt lt) (Nat.le_refl _) ⟨by
    show h₀.Ns _ (fun x => ((frame0 binds more).lookup x).join)
    have : (fun x => ((frame0 binds more).lookup x).join) = fun x => binds.reverse.lookup x := funext fun x => frame0_lookup binds.reverse more x
    rw [this]; exact hns, of_decide_eq_true hnd⟩
  have hks' : ∀ p ∈ ks, fd.scope.names.lookup p.1 = some p.2 ∧ (p.1 == ("__debug__" : Str)) = false ∧ (p.1 == ("__classdict__" : Str)) = false := fun p hp => by
    have := List.all_eq_true.mp hks p hp
    simp only [Bool.and_eq_true, Bool.not_eq_true', beq_iff_eq] at this
    exact ⟨this.1.1, this.1.2, this.2⟩
  have E : EnvIs (callEnv fd s.heap.objs.size f) ks s.heap.objs.size fd.closure := ⟨hk, fun p hp => (hks' p hp).1, fun p hp => (hks' p hp).2, rfl, hg, hbi, rfl, hcn⟩
  refine kla_codeExpr (wpAny_mono (h _ _ E _ hA.deeper _ (S₁.toks (t := s.toks + binds.length) (Nat.le_add_right_of_le S₁.size))) (fun v s' ⟨L', S', h'⟩ => ?_) fun ι ι x => x.elim)
  exact ⟨_, L', rfl, S', v, rfl, h'⟩
theorem T_unpackItems {t : Addr} {vs : List Value} {k : Nat} {Q : List Value → Led → Prop} (hm : (t, tup vs) ∈ L) (hk : k = vs.length) (h : Q vs L) : T B n (unpackItems (.ref t) k none) L Q := fun A hA s S => by
  subst hk
  have ht : IsTup s.heap t vs.toArray := ⟨_, S.its _ hm, rfl, _, rfl⟩
  have := unpackItems_tuple (prog := B.prog) (w := B.w) (E := fun ι ι => False) (Q := fun vs s' => ∃ L', St B L' s' ∧ Q vs L') hA.1 ht fun h' hx => ⟨L, S.grow2 (fun b o e => hx b o (Nat.ne_of_lt (Heap.lt_size e)) e) (List.ne_nil_of_mem hm), h⟩
  simpa using this
theorem T_aio_nil {xs : List Value} {Q : Unit → Led → Prop} (h : Q () L) : T B n (assignInOrder [] xs) L Q := T_pure h
theorem T_aio_cons {t : Value → Sem Unit} {ts : List (Value → Sem Unit)} {y : Value} {xs : List Value} {Q : Unit → Led → Prop} (h : T B n (t y) L fun ι L₁ => T B n (assignInOrder ts xs) L₁ Q) : T B n (assignInOrder (t :: ts) (y :: xs)) L Q :=
  T_bind (T_holding (T_mono h fun ι ι h1 => h1))
theorem T_asTup {elts : List Expr} {k : Nat} {t : Addr} {vs : List Value} {Q : Unit → Led → Prop} (hm : (t, tup vs) ∈ L) (hn : (assignEach elts env).length = vs.length) (hst : (assignEach elts env).findIdx? (·.1) = none)
    (h : T B n (assignInOrder ((assignEach elts env).map (·.2)) vs) L Q) : T B n (assign (.Tuple elts k pos) env (.ref t)) L Q := by
  rw [arm_assign_Tuple]
  refine T_bind (T_standAt ?_)
  unfold unpack
  rw [hst]
  exact T_bind (T_holding (T_unpackItems hm hn h))
theorem T_s_AsTup {elts : List Expr} {k : Nat} {tpos : Pos} {value : Expr} {rest : List Stmt} {Q : Flow → Led → Prop} (hs : swapsWithSole [.Tuple elts k tpos] value pos.line env = pure false) (hw : swappedStores [.Tuple elts k tpos] value env = pure none)
    (h : T B n (eval value env) L fun v L₁ => T B n (assign (.Tuple elts k tpos) env v) L₁ fun ι L₂ => T B n (execs rest env) L₂ Q) : T B n (execs (.Assign [.Tuple elts k tpos] value pos :: rest) env) L Q := by
  refine T_seq ?_
  rw [arm_exec_Assign, hs]
  refine T_bind (T_standAt (T_bind (T_pure ?_)))
  refine T_bind (T_mono h fun v L₁ h1 => ?_)
  rw [hw]
  refine T_bind (T_pure ?_)
  show T B n (do assignAll v [assign (.Tuple elts k tpos) env]; pure Flow.next) L₁ _
  exact T_bind (T_mono h1 fun ι ι h2 => T_pure h2)
theorem T_s_AsSwap {elts : List Expr} {k : Nat} {tpos : Pos} {value : Expr} {names : List Str} {rest : List Stmt} {Q : Flow → Led → Prop} (hs : swapsWithSole [.Tuple elts k tpos] value pos.line env = pure false) (hw : swappedStores [.Tuple elts k tpos] value env = pure (some names))
    (h : T B n (eval value env) L fun v L₁ => T B n (unpackItems v names.length none) L₁ fun vs L₂ => T B n (assignInOrder (names.reverse.map fun n => bindName env n) vs.reverse) L₂ fun ι L₃ => T B n (execs rest env) L₃ Q) : T B n (execs (.Assign [.Tuple elts k tpos] value pos :: rest) env) L Q := by
  refine T_seq ?_
  rw [arm_exec_Assign, hs]
  refine T_bind (T_standAt (T_bind (T_pure ?_)))
  refine T_bind (T_mono h fun v L₁ h1 => ?_)
  rw [hw]
  refine T_bind (T_pure ?_)
  show T B n (do rule "assign.swapped-stores"; let items ← unpackItems v names.length none; assignInOrder (names.reverse.map fun n => bindName env n) items.reverse; pure Flow.next) L₁ _
  exact T_bind (T_rule (T_bind (T_mono h1 fun vs L₂ h2 => T_bind (T_mono h2 fun ι L₃ h3 => T_pure h3))))
theorem T_items {l : Addr} {vs : List Value} {Q : Option (Array Value) → Led → Prop} (hm : (l, It.ls vs) ∈ L) (h : Q (some vs.toArray) L) : T B n (seqItems? (.ref l)) L Q := fun A hA s S => by
  obtain ⟨k, e⟩ := S.its _ hm
  exact wpAny_seqItems e rfl ⟨L, S, h⟩
theorem T_updSeq {l : Addr} {vs vs' : List Value} {f : Array Value → Array Value} {Q : Unit → Led → Prop} (hr : Rem (l, It.ls vs) L L₁) (hf : f vs.toArray = vs'.toArray) (hz : vs.length ≤ sizeLine) (hz' : vs'.length ≤ vs.length + 1) (h : Q () ((l, .ls vs') :: L₁)) : T B n (updateSeq l f) L Q := fun A hA s S => by
  have S₁ := S.rem hr
  obtain ⟨k, e⟩ := S₁.its _ (.head _)
  refine wpAny_updateSeq e rfl ⟨_, S₁.upd (it' := .ls vs') (Heap.SameBut.update ..) rfl ?_, h⟩ (by simpa using hz) (by rw [hf]; simp; omega)
  refine ⟨if (vs'.toArray.size == vs.toArray.size) = true then k else k + 1, (Heap.get?_update_self _ e ?_).trans ?_⟩
  · rfl
  · unfold Obj.mapSeq
    simp only [hf]
theorem T_append {l : Addr} {vs : List Value} {y : Value} {Q : Value → Led → Prop} (hr : Rem (l, It.ls vs) L L₁) (hz : vs.length ≤ sizeLine) (h : Q .none ((l, .ls (vs ++ [y])) :: L₁)) : T B (n + 1) (call (.builtin "list.append") [.ref l, y] []) L Q := by
  refine T_slot slot_list_append entry_list_append (fun s S => ty_ls (List.Mem.head _) s (S.rem hr)) (args_list_append _ _) ?_
  show T B n (updateSeq l (·.push y) >>= fun ι => ret .none) L _
  exact T_bind (T_updSeq hr (by simp) hz (by simp) (T_ret h))
theorem T_reverse {l : Addr} {vs : List Value} {Q : Value → Led → Prop} (hr : Rem (l, It.ls vs) L L₁) (hz : vs.length ≤ sizeLine) (h : Q .none ((l, .ls vs.reverse) :: L₁)) : T B (n + 1) (call (.builtin "list.reverse") [.ref l] []) L Q := by
  refine T_slot F.slot_list_reverse F.entry_list_reverse (fun s S => ty_ls (List.Mem.head _) s (S.rem hr)) (F.args_list_reverse_1 _) ?_
  show T B n (updateSeq l (·.reverse) >>= fun ι => ret .none) L _
  exact T_bind (T_updSeq hr (by simp) hz (by simp) (T_ret h))
theorem T_len {l : Addr} {vs : List Value} {Q : Value → Led → Prop} (hm : (l, It.ls vs) ∈ L) (hz : vs.length < 2 ^ 62) (h : ∀ t, Q (.int vs.length t) L) : T B n (call (.builtin "len") [.ref l] []) L Q := fun A hA s S => by
  have hl := (show s.heap.PlainList l vs.toArray from S.its _ hm).isList
  exact call_len_list hl (by simp; omega) ⟨L, S.tp, by simpa using h _⟩
theorem T_setItem {l : Addr} {vs : List Value} {k : Int} {t : Tok} {y : Value} {Q : Unit → Led → Prop} (hr : Rem (l, It.ls vs) L L₁) (h0 : 0 ≤ k) (hk : k < vs.length) (hz : vs.length < 2 ^ 62) (h : Q () ((l, .ls (vs.set k.toNat y)) :: L₁)) : T B n (setItem (.ref l) (.int k t) y) L Q := fun A hA s S => by
  have S₁ := S.rem hr
  obtain ⟨nn, ho⟩ := S₁.its _ (.head _)
  have hl : s.heap.IsList l vs.toArray := ⟨_, ho, rfl, _, rfl⟩
  unfold setItem
  try with_reducible refine wpAny_holding ?_
  first | refine wpAny_bind (wpAny_pure ?_) | skip
  refine wpAny_bind (wpAny_sequenceKey hl.typeIs (by decide) ?_)
  refine wpAny_bind (wpAny_callSpecial?_slot (name := Str.ofString "__setitem__") hl.typeIs slot_list_setitem
    (wpAny_call_entry slot_list_setitem hl.typeIs entry_list_setitem ?_ (args_list_setitem _ _ _)))
  show wpAny _ _ (Builtin.List.listSubscript? (.int k t) >>= _) _ _ s
  refine wpAny_bind (wpAny_listSubscript_int (fitsIndex_of h0 (by omega)) ?_)
  obtain ⟨j, rfl⟩ := Int.eq_ofNat_of_zero_le h0
  have hj : j < vs.toArray.size := by simp; omega
  have hx' : vs.toArray[j]? = some vs.toArray[j] := Array.getElem?_eq_getElem hj
  show wpAny _ _ ((seqItemAt l j >>= fun r => pure (r.map (j, ·))) >>= _) _ _ s
  refine wpAny_bind (wpAny_bind (wpAny_seqItemAt ho rfl (wpAny_pure ?_)))
  rw [hx']
  show wpAny _ _ (setSeqItemAt l j y >>= _) _ _ s
  have hfin : (s.heap.update l (Obj.mapSeq (·.setIfInBounds j y))).PlainList l (vs.set j y).toArray := by
    refine ⟨if ((vs.toArray.setIfInBounds j y).size == vs.toArray.size) = true then nn else nn + 1, (Heap.get?_update_self _ ho rfl).trans ?_⟩
    unfold Obj.mapSeq
    simp
  refine wpAny_bind (wpAny_setSeqItemAt ho rfl ?_)
  have S₂ := S₁.upd (it' := .ls (vs.set j y)) (Heap.SameBut.update s.heap l (Obj.mapSeq (·.setIfInBounds j y))) rfl hfin
  first
    | exact wpAny_bind (wpAny_pure (wpAny_pure ⟨.none, rfl, wpAny_pure ⟨_, S₂, h⟩⟩))
    | exact wpAny_pure ⟨.none, rfl, wpAny_pure ⟨_, S₂, h⟩⟩
theorem T_meth_ls {l : Addr} {vs : List Value} {name : Str} {id : String} {o : Expr} {Q : Value × List Value → Led → Prop} (hm : (l, It.ls vs) ∈ L) (slot : Slot "list" name id) (hty : typeOf (.builtin id) = pure (.type "method_descriptor")) (h : Q (.builtin id, [.ref l]) L) : T B n (calleeOf true o env (.ref l) name) L Q :=
  T_getMeth (ty_ls hm) F.plainAttrs_list slot hty (hd_ls hm) h
theorem T_Sub {value slice : Expr} {Q : Value → Led → Prop} (h : T B n (eval value env) L fun o L₁ => T B n (eval slice env) L₁ fun i L₂ => T B n (subscriptTail value slice o i) L₂ Q) : T B n (eval (.Subscript value slice pos) env) L Q := by
  rw [arm_eval_Subscript]
  exact T_bind (T_mono h fun o L₁ h1 => T_bind (T_holding (T_mono h1 fun i L₂ h2 => T_bind (T_standAt h2))))
theorem T_tail {value slice : Expr} {o i : Value} {ops : List Value} {Ty id : String} {Q : Value → Led → Prop} (hT : TyIs B L o Ty) (hl : typeLookup (.type Ty) "__getitem__" = pure (some (.builtin id))) (hs : subscripted slice false o i = operate ops (getItem o i))
    (h : T B n (getItem o i) L Q) : T B n (subscriptTail value slice o i) L Q := fun A hA s S => tail_any (hT s S) hl (h A hA s S) hs
theorem T_item_ls {l : Addr} {vs : List Value} {k : Int} {t : Tok} {y : Value} {value slice : Expr} {Q : Value → Led → Prop} (hm : (l, It.ls vs) ∈ L) (h0 : 0 ≤ k) (hz : k < 2 ^ 63) (hx : vs[k.toNat]? = some y) (hs : subscripted slice false (.ref l) (.int k t) = operate [.ref l, .int k t] (getItem (.ref l) (.int k t))) (h : Q y L) :
    T B n (subscriptTail value slice (.ref l) (.int k t)) L Q := T_tail (ty_ls hm) slot_list_getitem.lookup hs fun A hA s S => by
  have hl := (show s.heap.PlainList l vs.toArray from S.its _ hm).isList
  exact wpAny_getItem_list hl h0 hz (by simpa using hx) ⟨L, S, h⟩
end
section
variable {B : Bg} {n : Nat} {α : Type} {L L' L₁ : Led}
theorem T_weak {t : Sem α} {Q : α → Led → Prop} (h : T B n t L fun a L' => ∃ L'', Pick L'' L' ∧ Q a L'') : T B n t L Q := fun A hA s S =>
  wpAny_mono (h A hA s S) (fun a s' ⟨L', S', L'', p, h'⟩ => ⟨L'', S'.pick p, h'⟩) fun ι ι x => x
theorem St.addList {s : Shared} {h' : Heap} {new : Led} (S : St B L s) (k : ∀ b o, s.heap.get? b = some o → h'.get? b = some o) (hz : s.heap.objs.size ≤ h'.objs.size) (hn : ∀ p ∈ new, s.heap.objs.size ≤ p.1 ∧ p.2.At h' p.1) (nd : (new.map (·.1)).Nodup) :
    St B (new ++ L) { s with heap := h' } := by
  have S' := S.grow k hz
  refine ⟨S'.keep, S'.tab, fun p hp => ?_, ?_, fun p hp => ?_, S'.size, S'.old, S'.gens, S'.os⟩
  · rcases List.mem_append.mp hp with hp | hp
    · exact (hn p hp).2
    · exact S'.its p hp
  · rw [List.map_append, List.nodup_append]
    refine ⟨nd, S.nd, fun a ha b hb e => ?_⟩
    obtain ⟨p, hp, rfl⟩ := List.mem_map.mp ha
    obtain ⟨q, hq, rfl⟩ := List.mem_map.mp hb
    have h1 := (hn p hp).1
    have h2 := (S.its q hq).lt
    rw [← e] at h2
    exact absurd h1 (Nat.not_le.mpr h2)
  · rcases List.mem_append.mp hp with hp | hp
    · exact S.old_none (Heap.get?_none_of_le (hn p hp).1)
    · exact S.lo p hp
theorem cellsFrom_shift : ∀ (names : List (Str × NameKind)) (k n : Nat) (acc acc' : List (Str × Addr)), acc' = acc.map (fun y => (y.1, k + y.2)) → cellsFrom (k + n) names acc' = (cellsFrom n names acc).map fun y => (y.1, k + y.2)
  | [], k, n, acc, acc', e => e
  | (x, kd) :: r, k, n, acc, acc', e => by
    unfold cellsFrom
    split
    · exact cellsFrom_shift r k (n + 1) ((x, n) :: acc) ((x, k + n) :: acc') (by rw [e]; rfl)
    · exact cellsFrom_shift r k n acc acc' e
theorem bindL_is (kd : Str → Option NameKind) (x : Str) : ∀ (binds : List (Str × Value)) (m : Str → Option Value), bindL kd binds m x = ((binds.filter fun b => decide (kd b.1 = some .local)).reverse.lookup x).or (m x)
  | [], m => by simp [bindL]
  | (y, v) :: r, m => by
    unfold bindL
    rw [bindL_is kd x r]
    by_cases h : kd y = some .local
    · simp only [h, if_true, List.filter_cons, decide_true, List.reverse_cons, List.lookup_append, Option.or_assoc]
      congr 1
      simp only [List.lookup_cons, List.lookup_nil]
      by_cases e : x = y <;> simp [e, beq_eq_false_iff_ne.mpr]
    · simp [h, List.filter_cons]
theorem bindC_is (kd : Str → Option NameKind) (x : Str) : ∀ (binds : List (Str × Value)) (m : Str → Option Value), bindC kd binds m x = ((binds.filter fun b => !decide (kd b.1 = some .local)).reverse.lookup x).or (m x)
  | [], m => by simp [bindC]
  | (y, v) :: r, m => by
    unfold bindC
    rw [bindC_is kd x r]
    by_cases h : kd y = some .local
    · simp [h, List.filter_cons]
    · simp only [h, if_false, List.filter_cons, decide_false, Bool.not_false, if_true, List.reverse_cons, List.lookup_append, Option.or_assoc]
      congr 1
      simp only [List.lookup_cons, List.lookup_nil]
      by_cases e : x = y
      · simp [e]
      · rw [beq_eq_false_iff_ne.mpr e]; simp [e]
theorem T_cdef {fo : Obj} {fd : FuncData} {f : Addr} {body : List Stmt} {args : List Value} {kw : List (Str × Value)} (binds lb cb : List (Str × Value)) (more : List Str) (ks : List (Str × NameKind)) (fr : List (Str × Option Value)) (ini : List (Str × Nat × Option Value)) (cl : (Nat → Addr) → List (Str × Addr)) (cel : (Nat → Addr) → Led) {Q : Value → Led → Prop}
    (ho : ∀ s, St B L s → s.heap.get? f = some fo) (hd : fo.data = .func fd) (hc : ∀ s, St B L s → s.heap.CodeRec fd.code fd.qualname) (hbody : fd.body = .stmts body) (hbind : bindArgs fd ⟨args, kw⟩ = pure binds)
    (hloc : (binds.all fun x => fd.scope.names.lookup x.1 == some .local || fd.scope.names.lookup x.1 == some .cell) = true)
    (hlb : (binds.filter fun b => decide (fd.scope.names.lookup b.1 = some .local)) = lb) (hcb : (binds.filter fun b => !decide (fd.scope.names.lookup b.1 = some .local)) = cb)
    (hini : ((cellsFrom 0 fd.scope.names []).map fun y => (y.1, y.2, cb.reverse.lookup y.1)) = ini) (hcl : ∀ c, (ini.map fun y => (y.1, c y.2.1)) = cl c) (hcel : ∀ c, (ini.map fun y => (c y.2.1, It.ce y.2.2)) = cel c)
    (hks : (ks.all fun p => fd.scope.names.lookup p.1 == some p.2 && !(p.1 == ("__debug__" : Str)) && !(p.1 == ("__classdict__" : Str))) = true) (hfr : frame0 lb more = fr) (hnd : decide (fr.map (·.1)).Nodup = true) (hcn : decide ((cellsFrom 0 fd.scope.names []).map (·.1)).Nodup = true) (hin : decide ((cellsFrom 0 fd.scope.names []).map (·.2)).Nodup = true)
    (hg : fd.globals = mainGlobals) (hbi : fd.builtins = builtinsNs) (hclo : fd.closure = [])
    (hco : fd.scope.isCoroutine = false) (hgen : fd.scope.isGenerator = false) (hk : fd.scope.kind = .function)
    (h : ∀ F env c, EnvIs env ks F (cl c) → env.code = fd.code → env.qual = fd.qualname ++ ".<locals>." → T B n (execs body env) ((F, .ns fr) :: (cel c ++ L)) fun fl L' => Q (retOf fl) L') : T B (n + 1) (call (.ref f) args kw) L Q := T_call fun A hA s S => by
  subst hfr
  refine codeAny_call_function hA.room (ho s S) hd hco hgen hbody (hc s S) ?_
  rw [hbind, hclo]
  have hkinds : ∀ x ∈ binds, fd.scope.names.lookup x.1 = some .local ∨ (fd.scope.names.lookup x.1 = some .cell ∧ ((cellsFrom (s.heap.objs.size + 1) fd.scope.names []).lookup x.1).isSome = true) := fun x hx => by
    have := List.all_eq_true.mp hloc x hx
    rcases Bool.or_eq_true_iff.mp this with q | q
    · exact .inl (by simpa using q)
    · have q' : fd.scope.names.lookup x.1 = some .cell := by simpa using q
      exact .inr ⟨q', cellsFrom_some _ _ _ (.inl q')⟩
  refine wpAny_pure (S.up (wpAny_newFunctionEnv_cells hk hkinds fun env he s' x htk => ?_))
  obtain ⟨h₁, tk, e, hkp⟩ := x.done
  subst e
  have hlt := x.toInCall.ns.lt
  let c : Nat → Addr := fun k => s.heap.objs.size + 1 + k
  have hcells : env.cells = (cellsFrom 0 fd.scope.names []).map fun y => (y.1, c y.2) := by
    rw [he]
    exact cellsFrom_shift fd.scope.names (s.heap.objs.size + 1) 0 [] [] rfl
  have hloc' : env.locals = s.heap.objs.size := by rw [he]; rfl
  have hko : env.kindOf = fun x => fd.scope.names.lookup x := by rw [he]; rfl
  have hcl' : env.cells = cl c := by
    rw [hcells, ← hcl c, ← hini, List.map_map]
    rfl
  have S₁ : St B ((s.heap.objs.size, .ns (frame0 lb more)) :: (cel c ++ L)) { s with heap := h₁ } := by
    have := S.addList (new := (s.heap.objs.size, It.ns (frame0 lb more)) :: cel c) hkp (Nat.le_of_lt (by rw [hloc'] at hlt; exact hlt)) (fun p hp => ?_) ?_
    · exact this
    · rcases List.mem_cons.mp hp with rfl | hp
      · refine ⟨Nat.le_refl _, ?_, of_decide_eq_true hnd⟩
        have hns := x.toInCall.ns
        rw [hloc'] at hns
        have e : (fun x => ((frame0 lb more).lookup x).join) = bindL env.kindOf binds fun ι => none := by
          funext y
          rw [bindL_is, hko, hlb]
          unfold frame0
          rw [frame0_lookup lb.reverse more y, Option.or_none]
        show h₁.Ns _ (fun x => ((frame0 lb more).lookup x).join)
        rw [e]; exact hns
      · rw [← hcel c, ← hini, List.map_map] at hp
        obtain ⟨y, hy, rfl⟩ := List.mem_map.mp hp
        refine ⟨by show s.heap.objs.size ≤ s.heap.objs.size + 1 + y.2; exact Nat.le_trans (Nat.le_succ _) (Nat.le_add_right _ _), ?_⟩
        have hl : env.cells.lookup y.1 = some (c y.2) := by
          rw [hcells]
          exact lookup_of_mem (by rw [List.map_map]; exact of_decide_eq_true hcn) (List.mem_map_of_mem (f := fun y => (y.1, c y.2)) hy)
        have := x.cell y.1 (c y.2) hl
        rw [bindC_is, hko, Option.or_none, hcb] at this
        exact this
    · rw [List.map_cons, ← hcel c, ← hini, List.map_map, List.map_map]
      refine List.nodup_cons.mpr ⟨fun hm => ?_, ?_⟩
      · obtain ⟨y, hy, e⟩ := List.mem_map.mp hm
        have : s.heap.objs.size + 1 + y.2 = s.heap.objs.size := e
        omega
      · have hin' := of_decide_eq_true hin
        have e : (cellsFrom 0 fd.scope.names []).map ((fun p : Addr × It => p.1) ∘ (fun y : Str × Nat × Option Value => (c y.2.1, It.ce y.2.2)) ∘ fun y => (y.1, y.2, cb.reverse.lookup y.1)) = ((cellsFrom 0 fd.scope.names []).map (·.2)).map c := by rw [List.map_map]; rfl
        have fin := List.Pairwise.map (S := fun a b : Addr => a ≠ b) c (fun a b hab z => hab (Nat.add_left_cancel z)) hin'
        rw [← e] at fin
        exact fin
  refine ⟨(S₁.toks (t := tk) (by assumption)).lim, codeAny_func ?_⟩
  have hks' : ∀ p ∈ ks, fd.scope.names.lookup p.1 = some p.2 ∧ (p.1 == ("__debug__" : Str)) = false ∧ (p.1 == ("__classdict__" : Str)) = false := fun p hp => by
    have := List.all_eq_true.mp hks p hp
    simp only [Bool.and_eq_true, Bool.not_eq_true', beq_iff_eq] at this
    exact ⟨this.1.1, this.1.2, this.2⟩
  have E : EnvIs env ks s.heap.objs.size (cl c) := ⟨by rw [he]; exact hk, fun p hp => by rw [hko]; exact (hks' p hp).1, fun p hp => (hks' p hp).2, hloc', by rw [he]; exact hg, by rw [he]; exact hbi, hcl', by rw [← hcl', hcells, List.map_map]; exact of_decide_eq_true hcn⟩
  refine wpAny_mono (h _ env c E (by rw [he]; rfl) (by rw [he]; rfl) _ hA.deeper _ (S₁.toks (t := tk) (by assumption))) (fun fl s' ⟨L', S', h'⟩ => ?_) fun ι ι x => x.elim
  refine ⟨_, L', rfl, S', retOf fl, ?_, h'⟩
  cases fl <;> rfl
end
section
variable {B : Bg} {n : Nat} {α : Type} {L L' L₁ : Led} {env : Env} {ks : List (Str × NameKind)} {F : Addr} {cl : List (Str × Addr)} {x : Str} {pos : Pos} {v : Value} {c : Addr}
noncomputable abbrev PostQ (B : Bg) (Q : Value → Led → Prop) : Value → Shared → Prop := fun v s' => ∃ L', St B L' s' ∧ Q v L'
theorem T_gives {Ty : String} {name : Str} {id : String} {b : Builtin} {self : Value} {rest : List Value} {m : Made} {Q : Value → Led → Prop} (slot : Slot Ty name id) (hT : TyIs B L self Ty) (entry : entryFor table id = some b) (args : argsOk id ⟨self :: rest, []⟩) (g : Gives (b ⟨self :: rest, []⟩) m)
    (h : ∀ s, St B L s → m.post (PostQ B Q) s) : T B n (call (.builtin id) (self :: rest) []) L Q := fun A hA s S =>
  call_gives slot (hT s S) entry args g (h s S)
theorem T_t_val {e : Expr} {wh : Sem Value} {Q : Bool → Led → Prop} (he : isTrue e env wh = (do let v ← wh; standAt e.pos; holding [v] (truthy v))) (h : T B n wh L fun v L₁ => T B n (truthy v) L₁ Q) : T B n (isTrue e env wh) L Q := by
  rw [he]
  exact T_bind (T_mono h fun v L₁ h1 => T_bind (T_standAt (T_holding h1)))
theorem T_t_ls {l : Addr} {vs : List Value} {Q : Bool → Led → Prop} (hm : (l, It.ls vs) ∈ L) (hz : vs.length < 2 ^ 62) (h : Q (decide (vs ≠ [])) L) : T B n (truthy (.ref l)) L Q := fun A hA s S => by
  have hl := (show s.heap.PlainList l vs.toArray from S.its _ hm).isList
  refine wpAny_truthy_list hl (by simp; omega) ⟨L, S.tp, ?_⟩
  have : (!vs.toArray.isEmpty) = decide (vs ≠ []) := by cases vs <;> simp
  rw [this]; exact h
theorem T_t_int' {a : Int} {t : Tok} {Q : Bool → Led → Prop} (h : Q (decide (a ≠ 0)) L) : T B n (truthy (.int a t)) L Q := T_t_int (by
  have : (a != 0) = decide (a ≠ 0) := by by_cases e : a = 0 <;> simp [e]
  rw [this]; exact h)
theorem T_s_AsSub {o i value : Expr} {spos pos : Pos} {rest : List Stmt} {Q : Flow → Led → Prop} (hs : swapsWithSole [.Subscript o i spos] value pos.line env = pure false) (hw : swappedStores [.Subscript o i spos] value env = pure none) (hi : ∀ a b c : Value, (match i with | .Slice _ _ none _ => [c, a, b] | _ => [a, b, c]) = [a, b, c])
    (h : T B n (eval value env) L fun v L₁ => T B n (eval o env) L₁ fun ov L₂ => T B n (eval i env) L₂ fun iv L₃ => T B n (setItem ov iv v) L₃ fun ι L₄ => T B n (execs rest env) L₄ Q) : T B n (execs (.Assign [.Subscript o i spos] value pos :: rest) env) L Q := by
  refine T_seq ?_
  rw [arm_exec_Assign, hs]
  refine T_bind (T_standAt (T_bind (T_pure ?_)))
  refine T_bind (T_mono h fun v L₁ h1 => ?_)
  rw [hw]
  refine T_bind (T_pure ?_)
  show T B n (do assignAll v [assign (.Subscript o i spos) env]; pure Flow.next) L₁ _
  refine T_bind ?_
  show T B n (assign (.Subscript o i spos) env v) L₁ _
  rw [arm_assign_Subscript]
  refine T_bind (T_holding (T_mono h1 fun ov L₂ h2 => T_bind (T_holding (T_mono h2 fun iv L₃ h3 => T_bind (T_standAt (T_bind (T_holding (T_mono h3 fun ι L₄ h4 => ?_))))))))
  exact T_release (T_pure h4)
theorem T_s_AsAttr {o value : Expr} {attr : Str} {apos pos : Pos} {rest : List Stmt} {Q : Flow → Led → Prop} (hs : swapsWithSole [.Attribute o attr apos] value pos.line env = pure false) (hw : swappedStores [.Attribute o attr apos] value env = pure none)
    (h : T B n (eval value env) L fun v L₁ => T B n (eval o env) L₁ fun ov L₂ => T B n (setAttr ov attr v) L₂ fun ι L₃ => T B n (execs rest env) L₃ Q) : T B n (execs (.Assign [.Attribute o attr apos] value pos :: rest) env) L Q := by
  refine T_seq ?_
  rw [arm_exec_Assign, hs]
  refine T_bind (T_standAt (T_bind (T_pure ?_)))
  refine T_bind (T_mono h fun v L₁ h1 => ?_)
  rw [hw]
  refine T_bind (T_pure ?_)
  show T B n (do assignAll v [assign (.Attribute o attr apos) env]; pure Flow.next) L₁ _
  refine T_bind ?_
  show T B n (assign (.Attribute o attr apos) env v) L₁ _
  rw [arm_assign_Attribute]
  exact T_bind (T_holding (T_mono h1 fun ov L₂ h2 => T_bind (T_standAt (T_bind (T_holding (T_mono h2 fun ι L₃ h3 => T_release (T_pure h3)))))))
theorem T_isEval {e : Expr} {Q : Value → Led → Prop} (h : T B n (eval e env) L Q) : T B n (eval e env) L Q := h
theorem T_isName {y : Str} {p : Pos} {Q : Value → Led → Prop} (h : T B n (eval (.Name y p) env) L Q) : T B n (eval (.Name y p) env) L Q := h
theorem T_isConst {y : Const} {k : Nat} {p : Pos} {Q : Value → Led → Prop} (h : T B n (eval (.Constant y k p) env) L Q) : T B n (eval (.Constant y k p) env) L Q := h
theorem T_isExecs {e : List Stmt} {Q : Flow → Led → Prop} (h : T B n (execs e env) L Q) : T B n (execs e env) L Q := h
theorem T_isSpl {e : List (Bool × Sem Value)} {Q : List Value → Led → Prop} (h : T B n (spliced e) L Q) : T B n (spliced e) L Q := h
theorem T_isTest {e : Expr} {wh : Sem Value} {Q : Bool → Led → Prop} (h : T B n (isTrue e env wh) L Q) : T B n (isTrue e env wh) L Q := h
theorem T_isAsTup {es : List Expr} {k : Nat} {p : Pos} {v : Value} {Q : Unit → Led → Prop} (h : T B n (assign (.Tuple es k p) env v) L Q) : T B n (assign (.Tuple es k p) env v) L Q := h
theorem T_isBin {o : Operator} {a b : Value} {Q : Value → Led → Prop} (h : T B n (binaryOp o a b) L Q) : T B n (binaryOp o a b) L Q := h
theorem T_isInp {o : Operator} {a b : Value} {Q : Value → Led → Prop} (h : T B n (inplaceOp o a b) L Q) : T B n (inplaceOp o a b) L Q := h
theorem T_isCmp {o : CmpOp} {a b : Value} {Q : Value → Led → Prop} (h : T B n (compareOp o a b) L Q) : T B n (compareOp o a b) L Q := h
noncomputable def Blt (B : Bg) (x : Str) (v : Value) : Prop := B.mg x = none ∧ bootBuiltins x = some v ∧ x ≠ "__name__"
theorem T_ld_b {Q : Value → Led → Prop} (E : EnvIs env ks F cl) (hk : (x, NameKind.globalImplicit) ∈ ks) (hb : Blt B x v) (h : Q v L) : T B n (eval (.Name x pos) env) L Q := T_ld_blt E hk hb.1 hb.2.1 hb.2.2 h
theorem qual_is {name q out : Str} {k : NameKind} (E : EnvIs env ks F cl) (hk : (name, k) ∈ ks) (hkk : (some k == some NameKind.globalExplicit) = false) (hq : env.qual = q) (he : q ++ name = out) : qualnameIn env name name = out := by
  unfold qualnameIn
  rw [E.kd _ hk, hkk, hq]
  exact he
noncomputable def Cal (B : Bg) (env : Env) (L : Led) (v : Value) (name : Str) (f : Value) (first : List Value) : Prop := ∀ n (o : Expr) (Q : Value × List Value → Led → Prop), Q (f, first) L → T B n (calleeOf true o env v name) L Q
theorem T_MethS0 {o : Expr} {name : Str} {apos : Pos} {Q : Value → Led → Prop} (hb : attributeBase o name env (eval o env) = eval o env) (hp : (apos.endLine == pos.line) = true)
    (h : T B n (eval o env) L fun ov L₁ => ∃ f, Cal B env L₁ ov name f [ov] ∧ Kp B L₁ f ∧ T B n (call f [ov] []) L₁ Q) : T B n (eval (.Call (.Attribute o name apos) [] [] pos) env) L Q :=
  T_Meth0 hb hp (T_mono h fun ov L₁ ⟨f, h1, h2, h3⟩ => h1 n o _ ⟨h2, h3⟩)
theorem T_MethS1 {o e : Expr} {rest : List Expr} {name : Str} {apos : Pos} {Q : Value → Led → Prop} (hb : attributeBase o name env (eval o env) = eval o env) (hp : (apos.endLine == pos.line) = true) (he : starEach (e :: rest) env = (false, eval e env) :: starEach rest env)
    (hf : methodCallForm ((e :: rest).length + 0) (backTo pos (starEach (e :: rest) env)) (backToKw pos (keywordEach [] env)) = true)
    (h : T B n (eval o env) L fun ov L₁ => ∃ f, Cal B env L₁ ov name f [ov] ∧ T B n (spliced (backTo pos (starEach (e :: rest) env))) L₁ fun vs L₃ => Kp B L₃ f ∧ T B n (call f (ov :: vs) []) L₃ Q) :
    T B n (eval (.Call (.Attribute o name apos) (e :: rest) [] pos) env) L Q :=
  T_Meth1 hb hp he hf (T_mono h fun ov L₁ ⟨f, h1, h2⟩ => h1 n o _ h2)
theorem T_MethV1 {o e : Expr} {rest : List Expr} {name : Str} {apos : Pos} {Q : Value → Led → Prop} (hb : attributeBase o name env (eval o env) = eval o env) (hp : (apos.endLine == pos.line) = true) (he : starEach (e :: rest) env = (false, eval e env) :: starEach rest env)
    (hf : methodCallForm ((e :: rest).length + 0) (backTo pos (starEach (e :: rest) env)) (backToKw pos (keywordEach [] env)) = true)
    (h : T B n (eval o env) L fun ov L₁ => ∃ f, Cal B env L₁ ov name f [] ∧ T B n (spliced (backTo pos (starEach (e :: rest) env))) L₁ fun vs L₃ => Kp B L₃ f ∧ T B n (call f vs []) L₃ Q) :
    T B n (eval (.Call (.Attribute o name apos) (e :: rest) [] pos) env) L Q :=
  T_Meth1 hb hp he hf (T_mono h fun ov L₁ ⟨f, h1, h2⟩ => h1 n o _ h2)
theorem cal_ls {l : Addr} {vs : List Value} {name : Str} {id : String} (hm : (l, It.ls vs) ∈ L) (slot : Slot "list" name id) (hty : typeOf (.builtin id) = pure (.type "method_descriptor")) : Cal B env L (.ref l) name (.builtin id) [.ref l] := fun n o Q h => T_meth_ls hm slot hty h
theorem cal_int {a : Int} {t : Tok} {name : Str} {id : String} (slot : Slot "int" name id) (hty : typeOf (.builtin id) = pure (.type "method_descriptor")) : Cal B env L (.int a t) name (.builtin id) [.int a t] := fun n o Q h => T_getMeth ty_int F.plainAttrs_int slot hty (hd_val rfl) h
theorem cal_str {a : Str} {t : Tok} {name : Str} {id : String} (slot : Slot "str" name id) (hty : typeOf (.builtin id) = pure (.type "method_descriptor")) : Cal B env L (.str a t) name (.builtin id) [.str a t] := fun n o Q h => T_getMeth ty_str F.plainAttrs_str slot hty (hd_val rfl) h
theorem T_bitlen {a : Int} {t : Tok} {Q : Value → Led → Prop} (h : ∀ k, Q (.int ((Builtin.Int.intBits a : Nat) : Int) k) L) : T B n (call (.builtin "int.bit_length") [.int a t] []) L Q :=
  T_gives F.slot_int_bit_length ty_int F.entry_int_bit_length (F.args_int_bit_length_1 _) (AutoIntG2.int_bit_length_int_0 a t) fun s S => ⟨L, S.tp, h _⟩
theorem T_divmod {a b : Int} {t u : Tok} {Q : Value → Led → Prop} (hb : b ≠ 0) (hp : Builtin.divisionGoesByPylong a b = false) (h : ∀ r k k', Q (.ref r) ((r, tup [.int (a.fdiv b) k, .int (a.fmod b) k']) :: L)) : T B n (call (.builtin "divmod") [.int a t, .int b u] []) L Q := fun A hA s S =>
  divmod_int hb ⟨_, (S.push (o := { cls := .type "tuple", data := .seq #[.int (a.fdiv b) s.toks, .int (a.fmod b) (s.toks + 1)] }) (it := tup [.int (a.fdiv b) s.toks, .int (a.fmod b) (s.toks + 1)]) rfl fun h' e => e).tp, h _ _ _⟩ (.inl hp)
theorem T_lmul {l : Addr} {vs vs' : List Value} {k : Int} {u : Tok} {Q : Value → Led → Prop} (hm : (l, It.ls vs) ∈ L) (hlo : 0 ≤ k) (hhi : k < 100) (hsz : vs.length < 100) (hv : List.foldl (fun x1 x2 => x1 ++ x2) #[] (List.replicate (if vs.toArray.isEmpty = true then 0 else k.toNat) vs.toArray) = vs'.toArray) (h : ∀ r, Q (.ref r) ((r, .ls vs') :: L)) :
    T B n (binaryOp .Mult (.ref l) (.int k u)) L Q := fun A hA s S => by
  obtain ⟨nn, hl⟩ := S.its _ hm
  have hb : vs.toArray.size * k.toNat ≤ 100 * 100 := Nat.mul_le_mul (by simp; omega) (by omega)
  refine wpAny_binaryOp_repeat_ref (T := "list") (U := "int") (by decide) ⟨_, hl, rfl⟩ (fun s' => typeIs_int s' k u) noFill_list_mul F.fills_int_mul F.slot_int_rmul repeat_list F.slot_int_index.lookup
    (call_meets F.slot_int_rmul (typeIs_int s k u) F.entry_int_rmul (F.args_int_rmul_2 _ _) (int___rmul___int_list k u l vs.toArray nn)
      ⟨hl, rfl, ⟨_, hl, rfl⟩, call_meets F.slot_list_mul ⟨_, hl, rfl⟩ F.entry_list_mul (F.args_list_mul_2 _ _)
        (AutoListH.list___mul___list_int_3 l vs.toArray nn k u (by simp [Builtin.List.listFitsIndex]; omega) (by omega) (by simp [Builtin.List.listTooLong, sizeLine] at hb ⊢; omega))
        ⟨hl, ?_⟩⟩)
  rw [hv]
  exact ⟨_, S.push (o := { cls := .type "list", data := .seq vs'.toArray }) (it := .ls vs') rfl fun h' e => ⟨_, e⟩, h _⟩
noncomputable abbrev revIter (l : Addr) (i : Int) : It := .fl "list_reverseiterator" [.ref l, rawInt i]
theorem T_reversed {l : Addr} {vs : List Value} {Q : Value → Led → Prop} (hm : (l, It.ls vs) ∈ L) (h : ∀ it, Q (.ref it) ((it, revIter l ((vs.length : Int) - 1)) :: L)) : T B n (call (.type "reversed") [.ref l] []) L Q := fun A hA s S => by
  have hl := (show s.heap.PlainList l vs.toArray from S.its _ hm).isList
  refine call_reversed_list hl ⟨_, S.push (o := revObj l ((vs.toArray.size : Int) - 1)) (it := revIter l ((vs.length : Int) - 1)) rfl fun h' e => ⟨_, e, rfl, ?_⟩, h _⟩
  simp
  rfl
theorem T_iter_rev {it l : Addr} {i : Int} {Q : Value → Led → Prop} (hm : (it, revIter l i) ∈ L) (h : Q (.ref it) L) : T B n (pyIter (.ref it)) L Q := fun A hA s S => by
  obtain ⟨o, ho, hc, hd⟩ := S.its _ hm
  exact wpAny_pyIter_revIter ⟨o, ho, hc, by simpa using hd⟩ ⟨L, S, h⟩
theorem T_next_rev {it l : Addr} {i : Nat} {vs : List Value} {y : Value} {Q : Option Value → Led → Prop} (hr : Rem (it, revIter l i) L L₁) (hm : (l, It.ls vs) ∈ L₁) (hx : vs[i]? = some y) (h : Q (some y) ((it, revIter l ((i : Int) - 1)) :: L₁)) : T B n (pyNext (.ref it)) L Q := fun A hA s S => by
  have S₁ := S.rem hr
  obtain ⟨o, ho, hc, hd⟩ := S₁.its _ (.head _)
  have hl := (show s.heap.PlainList l vs.toArray from S₁.its _ (.tail _ hm)).isList
  refine wpAny_pyNext_rev_item ⟨o, ho, hc, by simpa using hd⟩ hl (by simpa using hx) fun h' hi hs => ⟨_, S₁.upd hs rfl ?_, h⟩
  obtain ⟨o', ho', hc', hd'⟩ := hi
  exact ⟨o', ho', hc', by simpa using hd'⟩
theorem T_end_rev {it l : Addr} {Q : Option Value → Led → Prop} (hr : Rem (it, revIter l (-1)) L L₁) (hne : L₁ ≠ []) (h : Q none L₁) : T B n (pyNext (.ref it)) L Q := fun A hA s S => by
  have S₁ := S.rem hr
  obtain ⟨o, ho, hc, hd⟩ := S₁.its _ (.head _)
  exact wpAny_pyNext_rev_end hA.1 ⟨o, ho, hc, by simpa using hd⟩ fun h' hs => ⟨_, S₁.ext hs rfl hne, h⟩
end
noncomputable def ourTabs : List TabRec := [⟨34, 30, "_int2digits.<locals>.inner"⟩, ⟨41, 37, "_digits2int.<locals>.inner"⟩, ⟨163, 159, "_law_lexer.<locals>.<lambda>"⟩, ⟨177, 173, "_law_told.<locals>.<lambda>"⟩]
structure Our (B : Bg) : Prop where
  K : B.K = KK B.w.params
  tabs : B.tabs = ourTabs
section
variable {B : Bg} {n : Nat} {L L' L₁ : Led}
theorem Our.get (O : Our B) {a : Addr} {o : Obj} (h : (KK B.w.params).lookup a = some o) : B.h0.get? a = some o := B.inK _ _ (by rw [O.K]; exact h)
theorem Our.glob (O : Our B) {x : Str} {v : Value} (h : nsIn (KK B.w.params) mainGlobals x = some (some v)) : B.mg x = some v := mg_of B.inK B.g (by rw [O.K]; exact h)
theorem Our.noglob (O : Our B) {x : Str} (h : nsIn (KK B.w.params) mainGlobals x = some none) : B.mg x = none := mg_none_of B.inK B.g (by rw [O.K]; exact h)
theorem notTab_fn {f : Addr} {fo : Obj} {fd : FuncData} (e : B.h0.get? f = some fo) (hd : fo.data = .func fd) : ∀ t ∈ B.tabs, f ≠ t.P := fun t ht z => by
  have := B.tab t ht
  rw [← z, e] at this
  cases this; cases hd
theorem T_sdef (O : Our B) (f : Addr) (binds : List (Str × Value)) (more : List Str) (ks : List (Str × NameKind)) (fr : List (Str × Option Value)) {oc : Value} {od : Option Addr} {osl : Array (Option Value)} {fd : FuncData} {body : List Stmt} {args : List Value} {kw : List (Str × Value)} {Q : Value → Led → Prop}
    (hget : (KK B.w.params).lookup f = some ⟨oc, od, .func fd, osl⟩) (hc : codeIn (KK B.w.params) fd.code fd.qualname = true) (hbody : fd.body = .stmts body) (hbind : bindArgs fd ⟨args, kw⟩ = pure binds)
    (hcell : (fd.scope.names.all fun x => x.2 != .cell) = true) (hloc : (binds.all fun x => fd.scope.names.lookup x.1 == some .local) = true)
    (hks : (ks.all fun p => fd.scope.names.lookup p.1 == some p.2 && !(p.1 == ("__debug__" : Str)) && !(p.1 == ("__classdict__" : Str))) = true) (hfr : frame0 binds more = fr) (hnd : decide (fr.map (·.1)).Nodup = true) (hcn : fd.closure = [])
    (hg : fd.globals = mainGlobals) (hbi : fd.builtins = builtinsNs)
    (hco : fd.scope.isCoroutine = false) (hgen : fd.scope.isGenerator = false) (hk : fd.scope.kind = .function)
    (h : ∀ F env, EnvIs env ks F [] → env.code = fd.code → env.qual = fd.qualname ++ ".<locals>." → T B n (execs body env) ((F, .ns fr) :: L) fun fl L' => Q (retOf fl) L') : T B (n + 1) (call (.ref f) args kw) L Q := by
  have e := O.get hget
  refine T_def binds more ks fr (fun s S => S.keep _ _ e (notTab_fn e rfl)) rfl (fun s S => S.code (codeRec_of B.inK (by rw [O.K]; exact hc))) hbody hbind hcell hloc hks hfr hnd (by rw [hcn]; exact List.nodup_nil) hg hbi hco hgen hk ?_
  rw [hcn]
  exact h
theorem T_scdef (O : Our B) (f : Addr) (binds lb cb : List (Str × Value)) (more : List Str) (ks : List (Str × NameKind)) (fr : List (Str × Option Value)) (ini : List (Str × Nat × Option Value)) (cl : (Nat → Addr) → List (Str × Addr)) (cel : (Nat → Addr) → Led) {oc : Value} {od : Option Addr} {osl : Array (Option Value)} {fd : FuncData} {body : List Stmt} {args : List Value} {kw : List (Str × Value)} {Q : Value → Led → Prop}
    (hget : (KK B.w.params).lookup f = some ⟨oc, od, .func fd, osl⟩) (hc : codeIn (KK B.w.params) fd.code fd.qualname = true) (hbody : fd.body = .stmts body) (hbind : bindArgs fd ⟨args, kw⟩ = pure binds)
    (hloc : (binds.all fun x => fd.scope.names.lookup x.1 == some .local || fd.scope.names.lookup x.1 == some .cell) = true)
    (hlb : (binds.filter fun b => decide (fd.scope.names.lookup b.1 = some .local)) = lb) (hcb : (binds.filter fun b => !decide (fd.scope.names.lookup b.1 = some .local)) = cb)
    (hini : ((cellsFrom 0 fd.scope.names []).map fun y => (y.1, y.2, cb.reverse.lookup y.1)) = ini) (hcl : ∀ c, (ini.map fun y => (y.1, c y.2.1)) = cl c) (hcel : ∀ c, (ini.map fun y => (c y.2.1, It.ce y.2.2)) = cel c)
    (hks : (ks.all fun p => fd.scope.names.lookup p.1 == some p.2 && !(p.1 == ("__debug__" : Str)) && !(p.1 == ("__classdict__" : Str))) = true) (hfr : frame0 lb more = fr) (hnd : decide (fr.map (·.1)).Nodup = true) (hcn : decide ((cellsFrom 0 fd.scope.names []).map (·.1)).Nodup = true) (hin : decide ((cellsFrom 0 fd.scope.names []).map (·.2)).Nodup = true)
    (hg : fd.globals = mainGlobals) (hbi : fd.builtins = builtinsNs) (hclo : fd.closure = [])
    (hco : fd.scope.isCoroutine = false) (hgen : fd.scope.isGenerator = false) (hk : fd.scope.kind = .function)
    (h : ∀ F env c, EnvIs env ks F (cl c) → env.code = fd.code → env.qual = fd.qualname ++ ".<locals>." → T B n (execs body env) ((F, .ns fr) :: (cel c ++ L)) fun fl L' => Q (retOf fl) L') : T B (n + 1) (call (.ref f) args kw) L Q := by
  have e := O.get hget
  exact T_cdef binds lb cb more ks fr ini cl cel (fun s S => S.keep _ _ e (notTab_fn e rfl)) rfl (fun s S => S.code (codeRec_of B.inK (by rw [O.K]; exact hc))) hbody hbind hloc hlb hcb hini hcl hcel hks hfr hnd hcn hin hg hbi hclo hco hgen hk h
theorem Our.t1 (O : Our B) : (⟨34, 30, "_int2digits.<locals>.inner"⟩ : TabRec) ∈ B.tabs := by rw [O.tabs]; exact .head _
theorem Our.t2 (O : Our B) : (⟨41, 37, "_digits2int.<locals>.inner"⟩ : TabRec) ∈ B.tabs := by rw [O.tabs]; exact .tail _ (.head _)
theorem Our.t3 (O : Our B) : (⟨163, 159, "_law_lexer.<locals>.<lambda>"⟩ : TabRec) ∈ B.tabs := by rw [O.tabs]; exact .tail _ (.tail _ (.head _))
theorem Our.t4 (O : Our B) : (⟨177, 173, "_law_told.<locals>.<lambda>"⟩ : TabRec) ∈ B.tabs := by rw [O.tabs]; exact .tail _ (.tail _ (.tail _ (.head _)))
end
section
variable {B : Bg}
theorem gl_div2n1n (O : Our B) : B.mg "_div2n1n" = some (.ref 21) := O.glob (by kernel_rfl)
theorem gl_int2digits (O : Our B) : B.mg "_int2digits" = some (.ref 35) := O.glob (by kernel_rfl)
theorem gl_digits2int (O : Our B) : B.mg "_digits2int" = some (.ref 42) := O.glob (by kernel_rfl)
theorem gl_divmod_pos (O : Our B) : B.mg "_divmod_pos" = some (.ref 49) := O.glob (by kernel_rfl)
theorem gl_int_divmod (O : Our B) : B.mg "int_divmod" = some (.ref 56) := O.glob (by kernel_rfl)
theorem gl_rgb_to_hls (O : Our B) : B.mg "rgb_to_hls" = some (.ref 63) := O.glob (by kernel_rfl)
theorem gl_rgb_to_hsv (O : Our B) : B.mg "rgb_to_hsv" = some (.ref 70) := O.glob (by kernel_rfl)
theorem gl_hsv_to_rgb (O : Our B) : B.mg "hsv_to_rgb" = some (.ref 77) := O.glob (by kernel_rfl)
theorem gl_pretty_flags (O : Our B) : B.mg "pretty_flags" = some (.ref 85) := O.glob (by kernel_rfl)
theorem gl_get_name_info (O : Our B) : B.mg "_get_name_info" = some (.ref 115) := O.glob (by kernel_rfl)
theorem gl_law_lexer (O : Our B) : B.mg "_law_lexer" = some (.ref 164) := O.glob (by kernel_rfl)
theorem gl_law_hues (O : Our B) : B.mg "_law_hues" = some (.ref 171) := O.glob (by kernel_rfl)
theorem gl_law_told (O : Our B) : B.mg "_law_told" = some (.ref 178) := O.glob (by kernel_rfl)
theorem gl_law_pass (O : Our B) : B.mg "_law_pass" = some (.ref 185) := O.glob (by kernel_rfl)
theorem gl_law_meet (O : Our B) : B.mg "_law_meet" = some (.ref 190) := O.glob (by kernel_rfl)
theorem gl_LIM (O : Our B) : ∃ k, B.mg "_DIV_LIMIT" = some (.int 4000 k) := ⟨_, O.glob rfl⟩
theorem gl_CFN (O : Our B) : B.mg "COMPILER_FLAG_NAMES" = some (.ref 78) := O.glob (by kernel_rfl)
theorem bl_min (O : Our B) : Blt B "min" (.builtin "min") := ⟨O.noglob (by kernel_rfl), PyProof.Rows.Boot.«min», by decide⟩
theorem bl_max (O : Our B) : Blt B "max" (.builtin "max") := ⟨O.noglob (by kernel_rfl), PyProof.Rows.Boot.«max», by decide⟩
theorem bl_sorted (O : Our B) : Blt B "sorted" (.builtin "sorted") := ⟨O.noglob (by kernel_rfl), PyProof.Rows.Boot.«sorted», by decide⟩
theorem bl_sum (O : Our B) : Blt B "sum" (.builtin "sum") := ⟨O.noglob (by kernel_rfl), PyProof.Rows.Boot.«sum», by decide⟩
theorem bl_len (O : Our B) : Blt B "len" (.builtin "len") := ⟨O.noglob (by kernel_rfl), PyProof.Rows.Boot.«len», by decide⟩
theorem bl_list (O : Our B) : Blt B "list" (.type "list") := ⟨O.noglob (by kernel_rfl), PyProof.Rows.Boot.«list», by decide⟩
theorem bl_range (O : Our B) : Blt B "range" (.type "range") := ⟨O.noglob (by kernel_rfl), PyProof.Rows.Boot.«range», by decide⟩
theorem bl_enumerate (O : Our B) : Blt B "enumerate" (.type "enumerate") := ⟨O.noglob (by kernel_rfl), PyProof.Rows.Boot.«enumerate», by decide⟩
theorem bl_iter (O : Our B) : Blt B "iter" (.builtin "iter") := ⟨O.noglob (by kernel_rfl), PyProof.Rows.Boot.«iter», by decide⟩
theorem bl_int (O : Our B) : Blt B "int" (.type "int") := ⟨O.noglob (by kernel_rfl), PyProof.Rows.Boot.«int», by decide⟩
theorem bl_abs (O : Our B) : Blt B "abs" (.builtin "abs") := ⟨O.noglob (by kernel_rfl), PyProof.Rows.Boot.«abs», by decide⟩
theorem bl_hex (O : Our B) : Blt B "hex" (.builtin "hex") := ⟨O.noglob (by kernel_rfl), PyProof.Rows.Boot.«hex», by decide⟩
theorem bl_divmod (O : Our B) : Blt B "divmod" (.builtin "divmod") := ⟨O.noglob (by kernel_rfl), PyProof.Rows.Boot.«divmod», by decide⟩
theorem bl_reversed (O : Our B) : Blt B "reversed" (.type "reversed") := ⟨O.noglob (by kernel_rfl), PyProof.Rows.Boot.«reversed», by decide⟩
theorem kp_21 (O : Our B) {L : Led} : Kp B L (.ref 21) := kp_fn (O.get (a := 21) rfl) rfl
theorem kp_35 (O : Our B) {L : Led} : Kp B L (.ref 35) := kp_fn (O.get (a := 35) rfl) rfl
theorem kp_42 (O : Our B) {L : Led} : Kp B L (.ref 42) := kp_fn (O.get (a := 42) rfl) rfl
theorem kp_49 (O : Our B) {L : Led} : Kp B L (.ref 49) := kp_fn (O.get (a := 49) rfl) rfl
theorem kp_56 (O : Our B) {L : Led} : Kp B L (.ref 56) := kp_fn (O.get (a := 56) rfl) rfl
theorem kp_63 (O : Our B) {L : Led} : Kp B L (.ref 63) := kp_fn (O.get (a := 63) rfl) rfl
theorem kp_70 (O : Our B) {L : Led} : Kp B L (.ref 70) := kp_fn (O.get (a := 70) rfl) rfl
theorem kp_77 (O : Our B) {L : Led} : Kp B L (.ref 77) := kp_fn (O.get (a := 77) rfl) rfl
theorem kp_85 (O : Our B) {L : Led} : Kp B L (.ref 85) := kp_fn (O.get (a := 85) rfl) rfl
theorem kp_115 (O : Our B) {L : Led} : Kp B L (.ref 115) := kp_fn (O.get (a := 115) rfl) rfl
theorem kp_164 (O : Our B) {L : Led} : Kp B L (.ref 164) := kp_fn (O.get (a := 164) rfl) rfl
theorem kp_171 (O : Our B) {L : Led} : Kp B L (.ref 171) := kp_fn (O.get (a := 171) rfl) rfl
theorem kp_178 (O : Our B) {L : Led} : Kp B L (.ref 178) := kp_fn (O.get (a := 178) rfl) rfl
theorem kp_185 (O : Our B) {L : Led} : Kp B L (.ref 185) := kp_fn (O.get (a := 185) rfl) rfl
theorem kp_190 (O : Our B) {L : Led} : Kp B L (.ref 190) := kp_fn (O.get (a := 190) rfl) rfl
end
section
variable {B : Bg} {n : Nat} {L L' L₁ : Led} {env : Env}
theorem T_isKp {v : Value} {R : Prop} (h : Kp B L v ∧ R) : Kp B L v ∧ R := h
theorem T_isCal {v : Value} {name : Str} {first : List Value} {R : Value → Prop} (h : ∃ f, Cal B env L v name f first ∧ R f) : ∃ f, Cal B env L v name f first ∧ R f := h
theorem T_isLe {a b : Nat} {R : Addr → Prop} (h : a ≤ b ∧ ∀ x : Addr, R x) : a ≤ b ∧ ∀ x : Addr, R x := h
theorem T_isBind {x : Str} {v : Value} {Q : Unit → Led → Prop} (h : T B n (bindName env x v) L Q) : T B n (bindName env x v) L Q := h
variable {ks : List (Str × NameKind)} {F c : Addr} {cl : List (Str × Addr)} {x : Str} {v : Value} {pos : Pos} {m m' : List (Str × Option Value)} {k : NameKind}
noncomputable def Gv (B : Bg) (x : Str) (v : Value) : Prop := B.mg x = some v ∨ Blt B x v
noncomputable def Nm (B : Bg) (n : Nat) (env : Env) (ks : List (Str × NameKind)) (F : Addr) (cl : List (Str × Addr)) (x : Str) (pos : Pos) (k : NameKind) (L : Led) (Q : Value → Led → Prop) : Prop := EnvIs env ks F cl → (x, k) ∈ ks → T B n (eval (.Name x pos) env) L Q
theorem T_nm {Q : Value → Led → Prop} (E : EnvIs env ks F cl) (hk : (x, k) ∈ ks) (h : Nm B n env ks F cl x pos k L Q) : T B n (eval (.Name x pos) env) L Q := h E hk
theorem nm_local {Q : Value → Led → Prop} (hm : (F, It.ns m) ∈ L) (hv : (x, some v) ∈ m) (h : Q v L) : Nm B n env ks F cl x pos .local L Q := fun E hk => T_n_local E hk hm hv h
theorem nm_cell {Q : Value → Led → Prop} (hc : (x, c) ∈ cl) (hm : (c, It.ce (some v)) ∈ L) (h : Q v L) : Nm B n env ks F cl x pos .cell L Q := fun E hk => T_n_cell E hk hc hm h
theorem nm_free {Q : Value → Led → Prop} (hc : (x, c) ∈ cl) (hm : (c, It.ce (some v)) ∈ L) (h : Q v L) : Nm B n env ks F cl x pos .free L Q := fun E hk => T_n_free E hk hc hm h
theorem nm_glob {Q : Value → Led → Prop} (hg : Gv B x v) (h : Q v L) : Nm B n env ks F cl x pos .globalImplicit L Q := fun E hk => hg.elim (fun hg => T_ld_glob E hk hg h) fun hg => T_ld_b E hk hg h
noncomputable def Sm (B : Bg) (n : Nat) (env : Env) (ks : List (Str × NameKind)) (F : Addr) (cl : List (Str × Addr)) (x : Str) (v : Value) (k : NameKind) (L : Led) (Q : Unit → Led → Prop) : Prop := EnvIs env ks F cl → (x, k) ∈ ks → T B n (storeName env x v) L Q
theorem T_sm {Q : Unit → Led → Prop} (E : EnvIs env ks F cl) (hk : (x, k) ∈ ks) (h : Sm B n env ks F cl x v k L Q) : T B n (storeName env x v) L Q := h E hk
theorem sm_local {Q : Unit → Led → Prop} (hr : Rem (F, It.ns m) L L₁) (hp : Put x (some v) m m') (h : Q () ((F, It.ns m') :: L₁)) : Sm B n env ks F cl x v .local L Q := fun E hk => T_st_local E hk hr hp h
theorem sm_cell {o : Option Value} {Q : Unit → Led → Prop} (hc : (x, c) ∈ cl) (hr : Rem (c, It.ce o) L L₁) (h : Q () ((c, It.ce (some v)) :: L₁)) : Sm B n env ks F cl x v .cell L Q := fun E hk => T_st_cell E hk hc hr h
theorem gv_div2n1n (O : Our B) : Gv B "_div2n1n" (.ref 21) := .inl (gl_div2n1n O)
theorem gv_int2digits (O : Our B) : Gv B "_int2digits" (.ref 35) := .inl (gl_int2digits O)
theorem gv_digits2int (O : Our B) : Gv B "_digits2int" (.ref 42) := .inl (gl_digits2int O)
theorem gv_divmod_pos (O : Our B) : Gv B "_divmod_pos" (.ref 49) := .inl (gl_divmod_pos O)
theorem gv_int_divmod (O : Our B) : Gv B "int_divmod" (.ref 56) := .inl (gl_int_divmod O)
theorem gv_hls (O : Our B) : Gv B "rgb_to_hls" (.ref 63) := .inl (gl_rgb_to_hls O)
theorem gv_hsv (O : Our B) : Gv B "rgb_to_hsv" (.ref 70) := .inl (gl_rgb_to_hsv O)
theorem gv_rgb (O : Our B) : Gv B "hsv_to_rgb" (.ref 77) := .inl (gl_hsv_to_rgb O)
theorem gv_flags (O : Our B) : Gv B "pretty_flags" (.ref 85) := .inl (gl_pretty_flags O)
theorem gv_gni (O : Our B) : Gv B "_get_name_info" (.ref 115) := .inl (gl_get_name_info O)
theorem gv_lexer (O : Our B) : Gv B "_law_lexer" (.ref 164) := .inl (gl_law_lexer O)
theorem gv_hues (O : Our B) : Gv B "_law_hues" (.ref 171) := .inl (gl_law_hues O)
theorem gv_told (O : Our B) : Gv B "_law_told" (.ref 178) := .inl (gl_law_told O)
theorem gv_pass (O : Our B) : Gv B "_law_pass" (.ref 185) := .inl (gl_law_pass O)
theorem gv_meet (O : Our B) : Gv B "_law_meet" (.ref 190) := .inl (gl_law_meet O)
theorem gv_CFN (O : Our B) : Gv B "COMPILER_FLAG_NAMES" (.ref 78) := .inl (gl_CFN O)
theorem gv_LIM (O : Our B) : ∃ k, Gv B "_DIV_LIMIT" (.int 4000 k) := (gl_LIM O).elim fun k h => ⟨k, .inl h⟩
theorem gw_min (O : Our B) : Gv B "min" (.builtin "min") := .inr (bl_min O)
theorem gw_max (O : Our B) : Gv B "max" (.builtin "max") := .inr (bl_max O)
theorem gw_sorted (O : Our B) : Gv B "sorted" (.builtin "sorted") := .inr (bl_sorted O)
theorem gw_sum (O : Our B) : Gv B "sum" (.builtin "sum") := .inr (bl_sum O)
theorem gw_len (O : Our B) : Gv B "len" (.builtin "len") := .inr (bl_len O)
theorem gw_list (O : Our B) : Gv B "list" (.type "list") := .inr (bl_list O)
theorem gw_range (O : Our B) : Gv B "range" (.type "range") := .inr (bl_range O)
theorem gw_enumerate (O : Our B) : Gv B "enumerate" (.type "enumerate") := .inr (bl_enumerate O)
theorem gw_iter (O : Our B) : Gv B "iter" (.builtin "iter") := .inr (bl_iter O)
theorem gw_int (O : Our B) : Gv B "int" (.type "int") := .inr (bl_int O)
theorem gw_abs (O : Our B) : Gv B "abs" (.builtin "abs") := .inr (bl_abs O)
theorem gw_hex (O : Our B) : Gv B "hex" (.builtin "hex") := .inr (bl_hex O)
theorem gw_divmod (O : Our B) : Gv B "divmod" (.builtin "divmod") := .inr (bl_divmod O)
theorem gw_reversed (O : Our B) : Gv B "reversed" (.type "reversed") := .inr (bl_reversed O)
theorem T_ndef {fo : Obj} {fd : FuncData} {f : Addr} {cd : Value} {q : Str} {body : List Stmt} {args : List Value} {kw : List (Str × Value)} (binds : List (Str × Value)) (more : List Str) (ks : List (Str × NameKind)) (fr : List (Str × Option Value)) (cl : List (Str × Addr)) {Q : Value → Led → Prop}
    (hm : (f, It.fn fo cd q) ∈ L) (hd : fo.data = .func fd) (hcd : fd.code = cd) (hq : fd.qualname = q) (hbody : fd.body = .stmts body) (hbind : bindArgs fd ⟨args, kw⟩ = pure binds)
    (hcell : (fd.scope.names.all fun x => x.2 != .cell) = true) (hloc : (binds.all fun x => fd.scope.names.lookup x.1 == some .local) = true)
    (hks : (ks.all fun p => fd.scope.names.lookup p.1 == some p.2 && !(p.1 == ("__debug__" : Str)) && !(p.1 == ("__classdict__" : Str))) = true) (hfr : frame0 binds more = fr) (hnd : decide (fr.map (·.1)).Nodup = true) (hcl : fd.closure = cl) (hcn : (cl.map (·.1)).Nodup)
    (hg : fd.globals = mainGlobals) (hbi : fd.builtins = builtinsNs)
    (hco : fd.scope.isCoroutine = false) (hgen : fd.scope.isGenerator = false) (hk : fd.scope.kind = .function)
    (h : ∀ F env, EnvIs env ks F cl → T B n (execs body env) ((F, .ns fr) :: L) fun fl L' => Q (retOf fl) L') : T B (n + 1) (call (.ref f) args kw) L Q := by
  subst hcl hcd hq
  exact T_def binds more ks fr (fun s S => (S.its _ hm).1) hd (fun s S => (S.its _ hm).2.1) hbody hbind hcell hloc hks hfr hnd hcn hg hbi hco hgen hk fun F env E ι ι => h F env E
theorem T_nlam {fo : Obj} {fd : FuncData} {f : Addr} {cd : Value} {q : Str} {body : Expr} {args : List Value} {kw : List (Str × Value)} (binds : List (Str × Value)) (more : List Str) (ks : List (Str × NameKind)) (fr : List (Str × Option Value)) (cl : List (Str × Addr)) {Q : Value → Led → Prop}
    (hm : (f, It.fn fo cd q) ∈ L) (hd : fo.data = .func fd) (hcd : fd.code = cd) (hq : fd.qualname = q) (hbody : fd.body = .expr body) (hbind : bindArgs fd ⟨args, kw⟩ = pure binds)
    (hcell : (fd.scope.names.all fun x => x.2 != .cell) = true) (hloc : (binds.all fun x => fd.scope.names.lookup x.1 == some .local) = true)
    (hks : (ks.all fun p => fd.scope.names.lookup p.1 == some p.2 && !(p.1 == ("__debug__" : Str)) && !(p.1 == ("__classdict__" : Str))) = true) (hfr : frame0 binds more = fr) (hnd : decide (fr.map (·.1)).Nodup = true) (hcl : fd.closure = cl) (hcn : (cl.map (·.1)).Nodup)
    (hg : fd.globals = mainGlobals) (hbi : fd.builtins = builtinsNs)
    (hco : fd.scope.isCoroutine = false) (hgen : fd.scope.isGenerator = false) (hk : fd.scope.kind = .function)
    (h : ∀ F env, EnvIs env ks F cl → T B n (eval body env) ((F, .ns fr) :: L) Q) : T B (n + 1) (call (.ref f) args kw) L Q := by
  subst hcl hcd hq
  exact T_lam binds more ks fr (fun s S => (S.its _ hm).1) hd (fun s S => (S.its _ hm).2.1) hbody hbind hcell hloc hks hfr hnd hcn hg hbi hco hgen hk h
theorem D_yes {p : Prop} [Decidable p] {X Y : Prop} (hp : p) (h : X) : (decide p = true → X) ∧ (decide p = false → Y) := ⟨fun ι => h, fun e => absurd hp (of_decide_eq_false e)⟩
theorem D_no {p : Prop} [Decidable p] {X Y : Prop} (hp : ¬ p) (h : Y) : (decide p = true → X) ∧ (decide p = false → Y) := ⟨fun e => absurd (of_decide_eq_true e) hp, fun ι => h⟩
theorem D_if {p : Prop} [Decidable p] {X Y : Prop} (h1 : p → X) (h2 : ¬ p → Y) : (decide p = true → X) ∧ (decide p = false → Y) := ⟨fun e => h1 (of_decide_eq_true e), fun e => h2 (of_decide_eq_false e)⟩
theorem B_yes {b : Bool} {X Y : Prop} (hb : b = true) (h : X) : (b = true → X) ∧ (b = false → Y) := ⟨fun ι => h, fun e => by simp [hb] at e⟩
theorem B_no {b : Bool} {X Y : Prop} (hb : b = false) (h : Y) : (b = true → X) ∧ (b = false → Y) := ⟨fun e => by simp [hb] at e, fun ι => h⟩
theorem seq_ret {rest : List Stmt} {v : Value} {Q : Flow → Led → Prop} (h : Q (.ret v) L) : Seq B n rest env Q (.ret v) L := h
theorem seq_brk {rest : List Stmt} {Q : Flow → Led → Prop} (h : Q .brk L) : Seq B n rest env Q .brk L := h
theorem seq_next {rest : List Stmt} {Q : Flow → Led → Prop} (h : T B n (execs rest env) L Q) : Seq B n rest env Q .next L := h
theorem loop_next {Q : Flow → Led → Prop} {J : Led → Prop} (h : J L) : LoopQ B Q J .next L := h
theorem loop_brk {Q : Flow → Led → Prop} {J : Led → Prop} (h : Q .next L) : LoopQ B Q J .brk L := h
theorem T_isHeap {v : Value} {R : Prop} (h : v.onHeap = false ∧ R) : v.onHeap = false ∧ R := h
theorem D_t {X Y : Prop} (h : X) : ((true : Bool) = true → X) ∧ ((true : Bool) = false → Y) := ⟨fun ι => h, fun e => nomatch e⟩
theorem D_f {X Y : Prop} (h : Y) : ((false : Bool) = true → X) ∧ ((false : Bool) = false → Y) := ⟨(fun e => nomatch e), fun ι => h⟩
end
section
variable {B : Bg} {n : Nat} {L L' L₁ : Led} {env : Env} {ks : List (Str × NameKind)} {F c : Addr} {cl : List (Str × Addr)} {x : Str} {v : Value} {pos : Pos} {rest : List Stmt}
theorem T_gCompare {l : Expr} {op : CmpOp} {r : Expr} {Q : Value → Led → Prop} (h : T B n (eval (.Compare l [op] [r] pos) env) L Q) : T B n (eval (.Compare l [op] [r] pos) env) L Q := h
theorem T_gCall1 {id : Str} {p : Pos} {e : Expr} {es : List Expr} {Q : Value → Led → Prop} (h : T B n (eval (.Call (.Name id p) (e :: es) [] pos) env) L Q) : T B n (eval (.Call (.Name id p) (e :: es) [] pos) env) L Q := h
theorem T_gMeth1 {o e : Expr} {y : Str} {p : Pos} {es : List Expr} {Q : Value → Led → Prop} (h : T B n (eval (.Call (.Attribute o y p) (e :: es) [] pos) env) L Q) : T B n (eval (.Call (.Attribute o y p) (e :: es) [] pos) env) L Q := h
theorem T_gMeth0 {o : Expr} {y : Str} {p : Pos} {Q : Value → Led → Prop} (h : T B n (eval (.Call (.Attribute o y p) [] [] pos) env) L Q) : T B n (eval (.Call (.Attribute o y p) [] [] pos) env) L Q := h
theorem T_hAssign {p : Pos} {e : Expr} {Q : Flow → Led → Prop} (h : T B n (execs (.Assign [.Name x p] e pos :: rest) env) L Q) : T B n (execs (.Assign [.Name x p] e pos :: rest) env) L Q := h
theorem T_hAsTup {es : List Expr} {k : Nat} {p : Pos} {e : Expr} {Q : Flow → Led → Prop} (h : T B n (execs (.Assign [.Tuple es k p] e pos :: rest) env) L Q) : T B n (execs (.Assign [.Tuple es k p] e pos :: rest) env) L Q := h
theorem T_hAsSub {o i : Expr} {p : Pos} {e : Expr} {Q : Flow → Led → Prop} (h : T B n (execs (.Assign [.Subscript o i p] e pos :: rest) env) L Q) : T B n (execs (.Assign [.Subscript o i p] e pos :: rest) env) L Q := h
theorem T_hAsAttr {o : Expr} {y : Str} {p : Pos} {e : Expr} {Q : Flow → Led → Prop} (h : T B n (execs (.Assign [.Attribute o y p] e pos :: rest) env) L Q) : T B n (execs (.Assign [.Attribute o y p] e pos :: rest) env) L Q := h
theorem T_hExpr {e : Expr} {Q : Flow → Led → Prop} (h : T B n (execs (.Expr e pos :: rest) env) L Q) : T B n (execs (.Expr e pos :: rest) env) L Q := h
theorem T_kCompare {l : Expr} {op : CmpOp} {r : Expr} {wh : Sem Value} {Q : Bool → Led → Prop} (h : T B n (isTrue (.Compare l [op] [r] pos) env wh) L Q) : T B n (isTrue (.Compare l [op] [r] pos) env wh) L Q := h
theorem T_isSplc {e : Expr} {es : List Expr} {Q : List Value → Led → Prop} (h : T B n (spliced (backTo pos (starEach (e :: es) env))) L Q) : T B n (spliced (backTo pos (starEach (e :: es) env))) L Q := h
theorem nm_is_local {Q : Value → Led → Prop} (h : Nm B n env ks F cl x pos .local L Q) : Nm B n env ks F cl x pos .local L Q := h
theorem nm_is_cell {Q : Value → Led → Prop} (h : Nm B n env ks F cl x pos .cell L Q) : Nm B n env ks F cl x pos .cell L Q := h
theorem nm_is_free {Q : Value → Led → Prop} (h : Nm B n env ks F cl x pos .free L Q) : Nm B n env ks F cl x pos .free L Q := h
theorem nm_is_glob {Q : Value → Led → Prop} (h : Nm B n env ks F cl x pos .globalImplicit L Q) : Nm B n env ks F cl x pos .globalImplicit L Q := h
theorem sm_is_local {Q : Unit → Led → Prop} (h : Sm B n env ks F cl x v .local L Q) : Sm B n env ks F cl x v .local L Q := h
theorem sm_is_cell {Q : Unit → Led → Prop} (h : Sm B n env ks F cl x v .cell L Q) : Sm B n env ks F cl x v .cell L Q := h
theorem T_isFloorDiv {a b : Int} {t u : Tok} {Q : Value → Led → Prop} (h : T B n (binaryOp .FloorDiv (.int a t) (.int b u)) L Q) : T B n (binaryOp .FloorDiv (.int a t) (.int b u)) L Q := h
theorem T_isMod {a b : Int} {t u : Tok} {Q : Value → Led → Prop} (h : T B n (binaryOp .Mod (.int a t) (.int b u)) L Q) : T B n (binaryOp .Mod (.int a t) (.int b u)) L Q := h
theorem T_clen {l : Addr} {Q : Value → Led → Prop} (h : T B n (call (.builtin "len") [.ref l] []) L Q) : T B n (call (.builtin "len") [.ref l] []) L Q := h
theorem T_cappend {l : Addr} {Q : Value → Led → Prop} (h : T B n (call (.builtin "list.append") [.ref l, v] []) L Q) : T B n (call (.builtin "list.append") [.ref l, v] []) L Q := h
theorem T_creverse {l : Addr} {Q : Value → Led → Prop} (h : T B n (call (.builtin "list.reverse") [.ref l] []) L Q) : T B n (call (.builtin "list.reverse") [.ref l] []) L Q := h
theorem T_creversed {l : Addr} {Q : Value → Led → Prop} (h : T B n (call (.type "reversed") [.ref l] []) L Q) : T B n (call (.type "reversed") [.ref l] []) L Q := h
theorem T_isSetItem {l : Addr} {k : Int} {t : Tok} {Q : Unit → Led → Prop} (h : T B n (setItem (.ref l) (.int k t) v) L Q) : T B n (setItem (.ref l) (.int k t) v) L Q := h
theorem T_isTailL {value slice : Expr} {l : Addr} {k : Nat} {i : OfNat Int k} {t : Tok} {Q : Value → Led → Prop} (h : T B n (subscriptTail value slice (.ref l) (.int (@OfNat.ofNat Int k i) t)) L Q) : T B n (subscriptTail value slice (.ref l) (.int (@OfNat.ofNat Int k i) t)) L Q := h
theorem T_isTruthRef {l : Addr} {Q : Bool → Led → Prop} (h : T B n (truthy (.ref l)) L Q) : T B n (truthy (.ref l)) L Q := h
theorem T_isLShift {a b : Int} {t u : Tok} {Q : Value → Led → Prop} (h : T B n (binaryOp .LShift (.int a t) (.int b u)) L Q) : T B n (binaryOp .LShift (.int a t) (.int b u)) L Q := h
theorem pick_g {q : Addr × It} (h : Pick (q :: L) L') : Pick (q :: L) L' := h
theorem pick_g2 {q : Addr × It} (h : Pick L' (q :: L)) : Pick L' (q :: L) := h
end
section
variable {α : Type} {p a b c d e f g h : α} {l : List α}
theorem M1 : p ∈ a :: p :: l := .tail _ (.head _)
theorem M2 : p ∈ a :: b :: p :: l := .tail _ M1
theorem M3 : p ∈ a :: b :: c :: p :: l := .tail _ M2
theorem M4 : p ∈ a :: b :: c :: d :: p :: l := .tail _ M3
theorem M5 : p ∈ a :: b :: c :: d :: e :: p :: l := .tail _ M4
theorem M6 : p ∈ a :: b :: c :: d :: e :: f :: p :: l := .tail _ M5
theorem M7 : p ∈ a :: b :: c :: d :: e :: f :: g :: p :: l := .tail _ M6
theorem J8 (x : p ∈ l) : p ∈ a :: b :: c :: d :: e :: f :: g :: h :: l := .tail _ (.tail _ (.tail _ (.tail _ (.tail _ (.tail _ (.tail _ (.tail _ x)))))))
theorem J1 (x : p ∈ l) : p ∈ a :: l := .tail _ x
end
section
variable {p a b c d e f g h : Addr × It} {l l' : Led}
theorem R1 : Rem p (a :: p :: l) (a :: l) := .tail .head
theorem R2 : Rem p (a :: b :: p :: l) (a :: b :: l) := .tail R1
theorem R3 : Rem p (a :: b :: c :: p :: l) (a :: b :: c :: l) := .tail R2
theorem R4 : Rem p (a :: b :: c :: d :: p :: l) (a :: b :: c :: d :: l) := .tail R3
theorem R5 : Rem p (a :: b :: c :: d :: e :: p :: l) (a :: b :: c :: d :: e :: l) := .tail R4
theorem R6 : Rem p (a :: b :: c :: d :: e :: f :: p :: l) (a :: b :: c :: d :: e :: f :: l) := .tail R5
theorem R7 : Rem p (a :: b :: c :: d :: e :: f :: g :: p :: l) (a :: b :: c :: d :: e :: f :: g :: l) := .tail R6
theorem RJ8 (x : Rem p l l') : Rem p (a :: b :: c :: d :: e :: f :: g :: h :: l) (a :: b :: c :: d :: e :: f :: g :: h :: l') := .tail (.tail (.tail (.tail (.tail (.tail (.tail (.tail x)))))))
theorem RJ1 (x : Rem p l l') : Rem p (a :: l) (a :: l') := .tail x
theorem PJ1 (x : Pick l' l) : Pick (a :: l') (a :: l) := .cons .head x
end
section
variable {x : Str} {v o : Option Value} {a b c d e f g h : Str × Option Value} {l l' : List (Str × Option Value)}
theorem U1 : Put x v (a :: (x, o) :: l) (a :: (x, v) :: l) := .tail .head
theorem U2 : Put x v (a :: b :: (x, o) :: l) (a :: b :: (x, v) :: l) := .tail U1
theorem U3 : Put x v (a :: b :: c :: (x, o) :: l) (a :: b :: c :: (x, v) :: l) := .tail U2
end
noncomputable def up (f : Str → Option Value) (x : Str) (v : Value) : Str → Option Value := fun y => if y = x then some v else f y
theorem up_eq {f : Str → Option Value} {x : Str} {v : Value} : up f x v x = some v := if_pos rfl
theorem up_ne {f : Str → Option Value} {x y : Str} {v : Value} {o : Option Value} (h : (y == x) = false) (e : f y = o) : up f x v y = o := (if_neg fun e => by rw [e, beq_self_eq_true] at h; cases h).trans e
section
variable {B : Bg} {n : Nat} {α : Type} {L L' L₁ : Led} {env : Env} {ks : List (Str × NameKind)} {F : Addr} {cl : List (Str × Addr)} {x : Str} {v : Value} {pos : Pos} {f : Str → Option Value}
theorem T_ldf {Q : Value → Led → Prop} (E : EnvIs env ks F cl) (hk : (x, NameKind.local) ∈ ks) (hm : (F, It.nf f) ∈ L) (hv : f x = some v) (h : Q v L) : T B n (loadName env x) L Q := fun ι ι s S =>
  wpAny_loadName_local E.kind (E.kd _ hk) (by rw [E.loc]; exact S.its _ hm) hv ⟨L, S, h⟩
theorem T_stf {Q : Unit → Led → Prop} (E : EnvIs env ks F cl) (hk : (x, NameKind.local) ∈ ks) (hr : Rem (F, It.nf f) L L₁) (h : Q () ((F, It.nf (up f x v)) :: L₁)) : T B n (storeName env x v) L Q := fun ι ι s S => by
  have S₁ := S.rem hr
  have N : s.heap.Ns F f := S₁.its _ (.head _)
  refine wpAny_storeName_local (E.kd _ hk) (by rw [E.loc]; exact N) (fun h' hn hs => ⟨_, (S₁.upd (h' := h') (it' := .nf (up f x v)) (by rw [E.loc] at hs; exact hs) rfl ?_).tp, h⟩) ?_
  · rw [E.loc] at hn
    exact hn
  · rw [E.kind]; rfl
theorem nm_f {Q : Value → Led → Prop} (hm : (F, It.nf f) ∈ L) (hv : f x = some v) (h : Q v L) : Nm B n env ks F cl x pos .local L Q := fun E hk => T_Name (E.nd _ hk).1 (T_ldf E hk hm hv h)
theorem sm_f {Q : Unit → Led → Prop} (hr : Rem (F, It.nf f) L L₁) (h : Q () ((F, It.nf (up f x v)) :: L₁)) : Sm B n env ks F cl x v .local L Q := fun E hk => T_stf E hk hr h
theorem T_nf {t : Sem α} {m : List (Str × Option Value)} {Q : α → Led → Prop} (h : T B n t ((F, It.nf fun x => (m.lookup x).join) :: L) Q) : T B n t ((F, It.ns m) :: L) Q := fun A hA s S =>
  h A hA s ⟨S.keep, S.tab, fun p hp => by
    rcases List.mem_cons.mp hp with rfl | hp
    · exact (S.its _ (.head _)).1
    · exact S.its _ (.tail _ hp), S.nd, fun p hp => by
    rcases List.mem_cons.mp hp with rfl | hp
    · exact S.lo (F, .ns m) (.head _)
    · exact S.lo _ (.tail _ hp), S.size, S.old, S.gens, S.os⟩
theorem T_nfx {t : Sem α} {m : List (Str × Option Value)} {Q : α → Led → Prop} {P : (Str → Option Value) → Prop} (hP : P fun x => (m.lookup x).join) (h : ∀ f, P f → T B n t ((F, It.nf f) :: L) Q) : T B n t ((F, It.ns m) :: L) Q := T_nf (h _ hP)
end
noncomputable def Kept (ns : List Str) (f f' : Str → Option Value) : Prop := ∀ x, x ∉ ns → f' x = f x
theorem Kept.refl {ns : List Str} {f : Str → Option Value} : Kept ns f f := fun ι ι => rfl
theorem Kept.up {ns : List Str} {f f' : Str → Option Value} {x : Str} {v : Value} (h : x ∈ ns) (k : Kept ns f f') : Kept ns f (Mine.Internal.up f' x v) := fun y hy => (if_neg fun e => hy (by rw [e]; exact h)).trans (k y hy)
theorem Kept.trans {ns : List Str} {f f' f'' : Str → Option Value} (k : Kept ns f f') (k' : Kept ns f' f'') : Kept ns f f'' := fun x h => (k' x h).trans (k x h)
section
variable {B : Bg} {n : Nat} {L L' L₁ : Led} {env : Env} {a b : Int} {t u : Tok}
noncomputable abbrev rng (a b : Int) (t u v : Tok) : It := flds "range" [.int a t, .int b u, .int 1 v]
noncomputable abbrev rngIter (x left : Int) : It := flds "range_iterator" [rawInt x, rawInt left, rawInt 1]
theorem T_range1 {Q : Value → Led → Prop} (h : ∀ r v w, Q (.ref r) ((r, rng 0 a v t w) :: L)) : T B n (call (.type "range") [.int a t] []) L Q := fun A hA s S =>
  call_range_1 ⟨_, (S.push (it := rng 0 a s.toks t (s.toks + 1)) rfl fun h' e => e).tp, h _ _ _⟩
theorem T_iter_range {r : Addr} {v : Tok} {Q : Value → Led → Prop} (hm : (r, rng a b t u v) ∈ L) (hs : Builtin.Range.small a b 1 = true) (h : ∀ it, Q (.ref it) ((it, rngIter a (Builtin.Range.rangeSize a b 1)) :: L)) : T B n (pyIter (.ref r)) L Q := fun A hA s S =>
  wpAny_pyIter_range (S.its _ hm) hs ⟨_, S.push (it := rngIter a (Builtin.Range.rangeSize a b 1)) rfl fun h' e => e, h _⟩
theorem T_next_range {it : Addr} {x left : Int} {Q : Option Value → Led → Prop} (hr : Rem (it, rngIter x left) L L₁) (hl : 0 < left) (h : ∀ k, Q (some (.int x k)) ((it, rngIter (x + 1) (left - 1)) :: L₁)) : T B n (pyNext (.ref it)) L Q := fun A hA s S => by
  have S₁ := S.rem hr
  exact wpAny_pyNext_range_item (S₁.its _ (.head _)) hl fun h' hi hs => ⟨_, (S₁.upd (it' := rngIter (x + 1) (left - 1)) hs rfl hi).tp, h _⟩
theorem T_end_range {it : Addr} {x left : Int} {Q : Option Value → Led → Prop} (hr : Rem (it, rngIter x left) L L₁) (hl : left ≤ 0) (hne : L₁ ≠ []) (h : Q none L₁) : T B n (pyNext (.ref it)) L Q := fun A hA s S => by
  have S₁ := S.rem hr
  exact wpAny_pyNext_range_end hA.1 (S₁.its _ (.head _)) hl fun h' hs => ⟨_, S₁.ext hs rfl hne, h⟩
theorem T_list_range {r : Addr} {v : Tok} {k : Nat} {Q : Value → Led → Prop} (hm : (r, rng a b t u v) ∈ L) (hs : Builtin.Range.small a b 1 = true) (hk : Builtin.Range.rangeSize a b 1 = (k : Int)) (hz : k ≤ 2 ^ 24)
    (h : ∀ l vs, IntsAre vs (rangeKs a k) → Q (.ref l) ((l, .ls vs) :: L)) : T B n (call (.type "list") [.ref r] []) L Q := fun A hA s S =>
  S.up <| call_list_range hA.1 (S.its _ hm) hs hk hz fun h' tk acc c hkp hD hI htk => by
    have S' : St B ((s.heap.objs.size, .ls acc.toList) :: L) { s with heap := h' } := S.add hkp (by
      exact Nat.le_of_lt (Heap.lt_size hD)) (Nat.le_refl _) ⟨c, by rw [Array.toArray_toList]; exact hD⟩
    exact ⟨_, S'.toks (by assumption), h _ _ (kll_ints _ _ _ (by rw [Array.length_toList]; exact hI.1) fun j v hj => by
      obtain ⟨t', e⟩ := hI.2 j v (by rw [← hj, Array.getElem?_toList])
      exact ⟨t', by simpa using e⟩)⟩
theorem Tc_for_range {target : Expr} {it : Addr} {hi : Int} {body orelse : List Stmt} {Q : Flow → Led → Prop} (I : Int → Led → Prop)
    (ht : ∀ it v, letOwnedTupleGo target it v = pure ())
    (turn : ∀ (ia : Addr) (X : It) x k L, x < hi → I x L → T B n (assign target env (.int x k)) ((ia, X) :: L) fun ι L₁ => T B n (execs body env) L₁ (LoopQ B Q fun L₂ => ∃ L₃, Pick ((ia, X) :: L₃) L₂ ∧ I (x + 1) L₃))
    (hne : ∀ L, I hi L → L ≠ []) (fin : ∀ L, I hi L → T B n (execs orelse env) L Q) {L₀ : Led} {x : Int} (hr : Rem (it, rngIter x (hi - x)) L L₀) (hx : x ≤ hi) (h : I x L₀) : Tc B n (.forLoop target (.ref it) body orelse env) L Q := by
  refine Tc_rem hr (Tc_for (fun k L => ∃ x L₀, L = (it, rngIter x (hi - x)) :: L₀ ∧ x ≤ hi ∧ (k : Int) = hi - x ∧ I x L₀) ?_ (hi - x).toNat ⟨x, L₀, rfl, hx, by omega, h⟩)
  rintro k L' ⟨x, L₀, rfl, hx, hk, hI⟩
  by_cases hlt : x < hi
  · refine T_next_range .head (by omega) fun tk => ?_
    show T B n (letOwnedTupleGo target (.ref it) _) _ _
    rw [ht]
    refine T_pure ?_
    refine T_mono (turn it (rngIter (x + 1) (hi - x - 1)) x tk L₀ hlt hI) fun ι L₁ h1 => T_mono h1 fun f L₂ h2 => ?_
    have key : ∀ L₂, (∃ L₃, Pick ((it, rngIter (x + 1) (hi - x - 1)) :: L₃) L₂ ∧ I (x + 1) L₃) → ∃ m L₅, m < k ∧ Pick L₅ L₂ ∧ ∃ x L₀, L₅ = (it, rngIter x (hi - x)) :: L₀ ∧ x ≤ hi ∧ (m : Int) = hi - x ∧ I x L₀ := fun L₂ ⟨L₃, hp, hI'⟩ =>
      ⟨k - 1, _, by omega, hp, x + 1, L₃, by rw [show hi - x - 1 = hi - (x + 1) from by omega], by omega, by omega, hI'⟩
    cases f with
    | next => exact key _ h2
    | cont => exact key _ h2
    | brk => exact h2
    | ret v => exact h2
  · have e : x = hi := by omega
    subst e
    exact T_end_range .head (by omega) (hne _ hI) (fin _ hI)
theorem T_sorted {l : Addr} {vs : List Value} {ns : List Int} {Q : Value → Led → Prop} (hm : (l, It.ls vs) ∈ L) (hi : IntsAre vs ns) (h64 : vs.length < 64)
    (h : ∀ r vs' ns', IntsAre vs' ns' → ns'.Perm ns → ns'.Pairwise (· ≤ ·) → Q (.ref r) ((r, .ls vs') :: L)) : T B n (call (.builtin "sorted") [.ref l] []) L Q := fun A hA s S => by
  have hl := (show s.heap.PlainList l vs.toArray from S.its _ hm).isList
  refine sorted_ints hl hi h64 fun out ns' a1 a2 a3 => ?_
  obtain ⟨e, he⟩ := sortedAll_at s.heap vs out
  refine ⟨_, S.add (it := .ls out.toList) (fun ι ι => sortedAll_old) ?_ (Nat.le_succ _) ⟨e, by rw [Array.toArray_toList]; exact he⟩, h _ _ _ a1 a2 a3⟩
  exact Nat.le_of_lt (Nat.lt_of_le_of_lt (Nat.le_succ _) (Heap.lt_size he))
theorem St.mapList {s : Shared} {l : Addr} {vs vs' : List Value} {f : Array Value → Array Value} (S₁ : St B ((l, It.ls vs) :: L₁) s) (hf : f vs.toArray = vs'.toArray) : St B ((l, It.ls vs') :: L₁) { s with heap := s.heap.update l (Obj.mapSeq f) } := by
  obtain ⟨k, e⟩ := S₁.its _ (.head _)
  refine S₁.upd (it' := .ls vs') (Heap.SameBut.update ..) rfl ?_
  refine ⟨if (vs'.toArray.size == vs.toArray.size) = true then k else k + 1, (Heap.get?_update_self _ e ?_).trans ?_⟩
  · rfl
  · unfold Obj.mapSeq
    simp only [hf]
theorem erase_toArray (vs : List Value) (k : Nat) : vs.toArray.eraseIdxIfInBounds k = (vs.eraseIdx k).toArray := by
  apply Array.ext'
  simp
theorem T_popAt {l : Addr} {vs : List Value} {i : Int} {k : Nat} {y : Value} {Q : Value → Led → Prop} (hr : Rem (l, It.ls vs) L L₁) (hi : i = (k : Int)) (hy : vs[k]? = some y) (hz : vs.length ≤ sizeLine) (h : Q y ((l, .ls (vs.eraseIdx k)) :: L₁)) :
    T B n (call (.builtin "list.pop") [.ref l, .int i t] []) L Q := by
  have hlt : k < vs.length := (List.getElem?_eq_some_iff.mp hy).1
  have hzz : sizeLine < 2 ^ 62 := by decide
  refine fun A hA s S => ?_
  have S₁ := S.rem hr
  obtain ⟨nn, ho⟩ := S₁.its _ (.head _)
  refine call_meets F.slot_list_pop ⟨_, ho, rfl⟩ F.entry_list_pop (F.args_list_pop_2 _ _) (MeetsSeq.list_pop_at l vs.toArray nn i t k y ?_ ?_ (by simpa using hy) (by simpa using hz)) ⟨ho, ?_⟩
  · subst hi; simp [Builtin.List.listFitsIndex]; omega
  · subst hi; simp [seqIndex?]; omega
  · exact ⟨_, S₁.mapList (erase_toArray vs k), h⟩
theorem T_popLast {l : Addr} {vs : List Value} {y : Value} {Q : Value → Led → Prop} (hr : Rem (l, It.ls (vs ++ [y])) L L₁) (hz : vs.length < sizeLine) (h : Q y ((l, .ls vs) :: L₁)) :
    T B n (call (.builtin "list.pop") [.ref l] []) L Q := by
  refine fun A hA s S => ?_
  have S₁ := S.rem hr
  obtain ⟨nn, ho⟩ := S₁.its _ (.head _)
  refine call_meets F.slot_list_pop ⟨_, ho, rfl⟩ F.entry_list_pop (F.args_list_pop_1 _) (MeetsSeq.list_pop_last l (vs ++ [y]).toArray nn y (by simp) (by simp; omega)) ⟨ho, ?_⟩
  exact ⟨_, S₁.mapList (by rw [erase_toArray]; congr 1; simp [List.eraseIdx_append_of_length_le]), h⟩
noncomputable def Rd (B : Bg) (L : Led) (v : Value) (d : PyData) : Prop := ∀ s, St B L s → ∃ as, Reads s.heap v d as
noncomputable def RdAll (B : Bg) (L : Led) (vs : List Value) (ds : List PyData) : Prop := ∀ s, St B L s → ∃ as, ReadsAll s.heap vs ds as
theorem rd_int : Rd B L (.int a t) (.int a) := fun s S => ⟨_, .int _ _⟩
theorem rd_str {x : Str} : Rd B L (.str x t) (.str x) := fun s S => ⟨_, .str _ _⟩
theorem rdAll_nil : RdAll B L [] [] := fun s S => ⟨_, .nil⟩
theorem rdAll_cons {v : Value} {d : PyData} {vs : List Value} {ds : List PyData} (h1 : Rd B L v d) (h2 : RdAll B L vs ds) : RdAll B L (v :: vs) (d :: ds) := fun s S =>
  let ⟨_, r1⟩ := h1 s S; let ⟨_, r2⟩ := h2 s S; ⟨_, .cons r1 r2⟩
theorem rd_ls {l : Addr} {vs : List Value} {ds : List PyData} (hm : (l, It.ls vs) ∈ L) (h : RdAll B L vs ds) : Rd B L (.ref l) (.list ds) := fun s S =>
  let ⟨_, r⟩ := h s S; let ⟨_, ho⟩ := S.its _ hm; ⟨_, .list ho rfl rfl r⟩
theorem rdAll_ints {vs : List Value} {ns : List Int} (h : IntsAre vs ns) : RdAll B L vs (ns.map .int) := by
  induction h with
  | nil => exact rdAll_nil
  | cons n t _ ih => exact rdAll_cons rd_int ih
theorem rdAll_strs {vs : List Value} {ns : List Str} (h : StrsAre vs ns) : RdAll B L vs (ns.map .str) := by
  induction h with
  | nil => exact rdAll_nil
  | cons n t _ ih => exact rdAll_cons rd_str ih
theorem T_eqData {v w : Value} {d e : PyData} {Q : Value → Led → Prop} (hv : Rd B L v d) (hw : Rd B L w e) (hd : d.canLay0 = true) (he : e.canLay0 = true) (hz : d.depth ≤ 8 * n) (h : Q (.bool (PyData.eqv d e)) L) : T B n (compareOp .Eq v w) L Q := fun A hA s S => by
  obtain ⟨_, r1⟩ := hv s S
  obtain ⟨_, r2⟩ := hw s S
  have := hA.2.2
  exact SeqAt.compareEq_reads r1 r2 hd he (by omega) ⟨L, S, h⟩
theorem T_neData {v w : Value} {d e : PyData} {Q : Value → Led → Prop} (hv : Rd B L v d) (hw : Rd B L w e) (hd : d.canLay0 = true) (he : e.canLay0 = true) (hz : d.depth ≤ 8 * n) (h : Q (.bool (!PyData.eqv d e)) L) : T B n (compareOp .NotEq v w) L Q := fun A hA s S => by
  obtain ⟨_, r1⟩ := hv s S
  obtain ⟨_, r2⟩ := hw s S
  have := hA.2.2
  exact SeqAt.compareNe_reads r1 r2 hd he (by omega) ⟨L, S, h⟩
theorem T_inData {v w : Value} {d : PyData} {xs : List PyData} {Q : Value → Led → Prop} (hv : Rd B L v d) (hw : Rd B L w (.list xs)) (hd : d.canLay0 = true) (he : PyData.canLayAll0 xs = true) (hz : d.depth + 1 ≤ 8 * n) (h : Q (.bool (xs.any fun y => PyData.eqv y d)) L) : T B n (compareOp .In v w) L Q := fun A hA s S => by
  obtain ⟨_, r1⟩ := hv s S
  obtain ⟨_, r2⟩ := hw s S
  have := hA.2.2
  exact SeqAt.in_list_reads r2 r1 he hd (by omega) ⟨L, S, h⟩
end
section
variable {B : Bg} {n : Nat} {L L' L₁ : Led} {env : Env} {a b : Int} {t u : Tok}
noncomputable def isStrV (x : Str) : Value → Bool
  | .str z _ => z == x
  | _ => false
theorem strsAre_get {vs : List Value} {ss : List Str} (h : StrsAre vs ss) : ∀ (j : Nat) (z : Str), ss[j]? = some z → ∃ t, vs[j]? = some (Value.str z t) := by
  induction h with
  | nil => intro j z e; simp at e
  | cons y t _ ih =>
    intro j z e
    cases j with
    | zero => simp at e; subst e; exact ⟨t, rfl⟩
    | succ j => simpa using ih j z (by simpa using e)
theorem strsAre_len {vs : List Value} {ss : List Str} (h : StrsAre vs ss) : vs.length = ss.length := by
  induction h with
  | nil => rfl
  | cons y t _ ih => simp [ih]
theorem strsAre_mem {vs : List Value} {ss : List Str} (h : StrsAre vs ss) : ∀ v ∈ vs, ∃ z t, v = Value.str z t := by
  induction h with
  | nil => intro v hv; cases hv
  | cons y t _ ih => intro v hv; rcases List.mem_cons.mp hv with rfl | hv; exact ⟨_, _, rfl⟩; exact ih v hv
theorem strsAre_erase {vs : List Value} {ss : List Str} (h : StrsAre vs ss) : ∀ j, StrsAre (vs.eraseIdx j) (ss.eraseIdx j) := by
  induction h with
  | nil => intro j; exact .nil
  | cons y t hh ih =>
    intro j
    cases j with
    | zero => exact hh
    | succ j => exact .cons y t (ih j)
theorem strsAre_append {vs ws : List Value} {ss ts : List Str} (h : StrsAre vs ss) (h2 : StrsAre ws ts) : StrsAre (vs ++ ws) (ss ++ ts) := by
  induction h with
  | nil => exact h2
  | cons y t hh ih => exact .cons y t ih
theorem intsAre_append {vs ws : List Value} {ss ts : List Int} (h : IntsAre vs ss) (h2 : IntsAre ws ts) : IntsAre (vs ++ ws) (ss ++ ts) := by
  induction h with
  | nil => exact h2
  | cons y t hh ih => exact .cons y t ih
theorem intsAre_len {vs : List Value} {ss : List Int} (h : IntsAre vs ss) : vs.length = ss.length := by
  induction h with
  | nil => rfl
  | cons y t _ ih => simp [ih]
theorem intsAre_erase {vs : List Value} {ss : List Int} (h : IntsAre vs ss) : ∀ j, IntsAre (vs.eraseIdx j) (ss.eraseIdx j) := by
  induction h with
  | nil => intro j; exact .nil
  | cons y t hh ih =>
    intro j
    cases j with
    | zero => exact hh
    | succ j => exact .cons y t (ih j)
theorem intsAre_get {vs : List Value} {ss : List Int} (h : IntsAre vs ss) : ∀ (j : Nat) (z : Int), ss[j]? = some z → ∃ t, vs[j]? = some (Value.int z t) := by
  induction h with
  | nil => intro j z e; simp at e
  | cons y t _ ih =>
    intro j z e
    cases j with
    | zero => simp at e; subst e; exact ⟨t, rfl⟩
    | succ j => simpa using ih j z (by simpa using e)
theorem eq_isStr {vs : List Value} {ss : List Str} (h : StrsAre vs ss) (x : Str) : ∀ y, y ∈ vs.toArray → MeetsSeq.EqGives y (.str x t) (isStrV x y) := fun y hy => by
  obtain ⟨z, tk, rfl⟩ := strsAre_mem h y (by simpa using hy)
  exact eqGives_str z x tk t
theorem T_removeStr {l : Addr} {vs : List Value} {ss : List Str} {j : Nat} {x : Str} {Q : Value → Led → Prop} (hr : Rem (l, It.ls vs) L L₁) (hs : StrsAre vs ss) (hj : ss[j]? = some x) (hno : ∀ m < j, ss[m]? ≠ some x) (hz : vs.length ≤ sizeLine)
    (h : Q .none ((l, .ls (vs.eraseIdx j)) :: L₁)) : T B n (call (.builtin "list.remove") [.ref l, .str x t] []) L Q := fun A hA s S => by
  have S₁ := S.rem hr
  obtain ⟨nn, ho⟩ := S₁.its _ (.head _)
  obtain ⟨tk, hv⟩ := strsAre_get hs j x hj
  have hlt : j < vs.length := (List.getElem?_eq_some_iff.mp hv).1
  have hvj : vs[j] = .str x tk := (List.getElem?_eq_some_iff.mp hv).2
  refine call_meets F.slot_list_remove ⟨_, ho, rfl⟩ F.entry_list_remove (F.args_list_remove_2 _ _) (MeetsSeq.list_remove l vs.toArray nn (.str x t) (isStrV x) (eq_isStr hs x) j (by simpa using hlt) (by simp [hvj, isStrV]) (fun m hm hlt' => ?_) (by simpa using hz)) ⟨ho, ?_⟩
  · have hm' : m < ss.length := by rw [← strsAre_len hs]; simpa using hm
    obtain ⟨tk', hv'⟩ := strsAre_get hs m ss[m] (by simp [hm'])
    have e : vs[m]'(by simpa using hm) = .str ss[m] tk' := (List.getElem?_eq_some_iff.mp hv').2
    have := hno m hlt'
    rw [List.getElem?_eq_getElem hm'] at this
    simp [e, isStrV]
    exact fun z => this (by rw [z])
  · exact ⟨_, S₁.mapList (erase_toArray vs j), h⟩
theorem T_indexStr {l : Addr} {vs : List Value} {ss : List Str} {j : Nat} {x : Str} {Q : Value → Led → Prop} (hm : (l, It.ls vs) ∈ L) (hs : StrsAre vs ss) (hj : ss[j]? = some x) (hno : ∀ m < j, ss[m]? ≠ some x) (hz : vs.length ≤ 1000)
    (h : ∀ k, Q (.int j k) L) : T B n (call (.builtin "list.index") [.ref l, .str x t] []) L Q := fun A hA s S => by
  obtain ⟨nn, ho⟩ := S.its _ hm
  obtain ⟨tk, hv⟩ := strsAre_get hs j x hj
  have hlt : j < vs.length := (List.getElem?_eq_some_iff.mp hv).1
  have hvj : vs[j] = .str x tk := (List.getElem?_eq_some_iff.mp hv).2
  refine call_meets F.slot_list_index ⟨_, ho, rfl⟩ F.entry_list_index (F.args_list_index_2 _ _) (MeetsSeq.list_index l vs.toArray nn (.str x t) (isStrV x) (eq_isStr hs x) j (by simpa using hlt) (by omega) (by simp [hvj, isStrV]) (fun m hm hlt' => ?_)) ⟨ho, ?_⟩
  · have hm' : m < ss.length := by rw [← strsAre_len hs]; simpa using hm
    obtain ⟨tk', hv'⟩ := strsAre_get hs m ss[m] (by simp [hm'])
    have e : vs[m]'(by simpa using hm) = .str ss[m] tk' := (List.getElem?_eq_some_iff.mp hv').2
    have := hno m hlt'
    rw [List.getElem?_eq_getElem hm'] at this
    simp [e, isStrV]
    exact fun z => this (by rw [z])
  · exact ⟨_, S.tp, h _⟩
theorem T_addList {l r : Addr} {vs ws : List Value} {Q : Value → Led → Prop} (hm : (l, It.ls vs) ∈ L) (hm2 : (r, It.ls ws) ∈ L) (hz : vs.length + ws.length ≤ sizeLine) (h : ∀ a, Q (.ref a) ((a, .ls (vs ++ ws)) :: L)) : T B n (binaryOp .Add (.ref l) (.ref r)) L Q := fun A hA s S => by
  obtain ⟨nn, ho⟩ := S.its _ hm
  obtain ⟨nm, ho2⟩ := S.its _ hm2
  refine P.add_list ho ho2 ?_ (by simpa using hz)
  rw [show vs.toArray ++ ws.toArray = (vs ++ ws).toArray from by simp]
  exact ⟨_, S.push (o := { cls := .type "list", data := .seq (vs ++ ws).toArray }) (it := .ls (vs ++ ws)) rfl fun h' e => ⟨_, e⟩, h _⟩
theorem fill_list_iadd : fillsInplaceSlot (.type "list") "add" (Operator.Add == .Add) = pure false := by
  unfold fillsInplaceSlot
  show (typeLookup (.type "list") (dunderI "add") >>= fun fi => pure (fi.isSome && !isSeqSlot fi)) = pure false
  rw [F.slot_list_iadd.lookup]
  rfl
theorem seq_list_iadd : seqSlot? (.type "list") (dunderI "add") = pure (some (.builtin "list.__iadd__")) := PySem.seqSlot_of F.slot_list_iadd.lookup (by decide +kernel)
theorem T_iaddList {l r : Addr} {vs ws : List Value} {Q : Value → Led → Prop} (hr : Rem (l, It.ls vs) L L₁) (hm2 : (r, It.ls ws) ∈ L₁) (hz : vs.length + ws.length ≤ 1000) (h : Q (.ref l) ((l, .ls (vs ++ ws)) :: L₁)) : T B n (inplaceOp .Add (.ref l) (.ref r)) L Q := fun A hA s S => by
  have S₁ := S.rem hr
  obtain ⟨nn, ho⟩ := S₁.its _ (.head _)
  obtain ⟨nm, ho2⟩ := S₁.its _ (.tail _ hm2)
  have ha : s.TypeIs (.ref l) "list" := ⟨_, ho, rfl⟩
  have hb : s.TypeIs (.ref r) "list" := ⟨_, ho2, rfl⟩
  have hsz : (1000 : Nat) ≤ sizeLine := by decide
  unfold inplaceOp
  refine wpAny_holding ?_
  refine wpAny_bind (wpAny_typeOf ha (wpAny_bind (wpAny_of_eq fill_list_iadd ?_)))
  show wpAny _ A (if false = true then _ else _) _ _ s
  rw [if_neg Bool.false_ne_true]
  refine wpAny_bind (PySem.wpAny_binaryOp1_none (nm := "add") ha hb noFill_list_add ?_)
  refine wpAny_bind (wpAny_of_eq seq_list_iadd ?_)
  refine wpAny_bind (wpAny_rule ?_)
  refine call_meets F.slot_list_iadd ha F.entry_list_iadd (F.args_list_iadd_2 _ _) (AutoSeq1.list___iadd___list_list_0 l vs.toArray nn r ws.toArray nm ?_ (by simp; omega) (by simp; omega)) ⟨ho, ho2, ?_⟩
  · simp [Builtin.List.listTooLong]; omega
  · exact ⟨_, S₁.mapList (by simp), h⟩
theorem T_sum {l : Addr} {vs : List Value} {ns : List Int} {Q : Value → Led → Prop} (hm : (l, It.ls vs) ∈ L) (hi : IntsAre vs ns) (h : ∀ k, Q (.int ns.sum k) L) : T B n (call (.builtin "sum") [.ref l] []) L Q := fun A hA s S => by
  have hl := (show s.heap.PlainList l vs.toArray from S.its _ hm).isList
  obtain ⟨xs, hx⟩ := hi.allInts.items
  have hl' : s.heap.IsList l (intItems xs) := hx ▸ hl
  refine S.up (sum_intListG hA.1 hl' fun h' tk t' hk htk => ?_)
  have e1 : ns = xs.toList.map (·.1) := by
    rw [← nums_intItems, ← hx]
    exact (show numsOf vs.toArray.toList = ns from hi.numsOf).symm
  have e2 : preSum (numAt xs) xs.size = ns.sum := by
    rw [preSum_eq, List.take_of_length_le (by simp), e1]
  rw [e2]
  exact ⟨L, (S.grow2 hk (List.ne_nil_of_mem hm)).toks (by assumption), h _⟩
theorem T_min2 {Q : Value → Led → Prop} (hne : L ≠ []) (h : ∀ k, Q (.int (min a b) k) L) : T B n (call (.builtin "min") [.int a t, .int b u] []) L Q := fun A hA s S =>
  S.up <| min_two_ints hA.1 fun h' tk hk htk => ⟨L, (S.grow2 hk hne).toks (by assumption), by
    by_cases e : b < a
    · rw [if_pos e, show b = min a b from by omega]; exact h _
    · rw [if_neg e]; have := h t; rwa [show min a b = a from by omega] at this⟩
theorem T_abs {Q : Value → Led → Prop} (h : ∀ k, Q (.int a.natAbs k) L) : T B n (call (.builtin "abs") [.int a t] []) L Q := fun A hA s S =>
  S.up <| call_abs_int fun u tk htk => ⟨L, S.toks htk, by
    have := h u
    by_cases e : a < 0
    · rw [if_pos e, show -a = (a.natAbs : Int) from by omega]; exact this
    · rw [if_neg e]; rwa [show (a.natAbs : Int) = a from by omega] at this⟩
theorem T_hex {Q : Value → Led → Prop} (hz : (baseText "0x" 16 a).length ≤ sizeLine) (h : ∀ k, Q (.str (baseText "0x" 16 a) k) L) : T B n (call (.builtin "hex") [.int a t] []) L Q := fun A hA s S =>
  P.hex_of_int ⟨L, S.tp, h _⟩ hz
end
section
variable {B : Bg} {n : Nat} {L L' L₁ : Led} {env : Env} {ks : List (Str × NameKind)} {F : Addr} {cl : List (Str × Addr)} {a b : Int} {t u : Tok}
noncomputable def relabL (ks : List (Str × NameKind)) (names : List (Str × NameKind)) : List (Str × NameKind) := names.map fun (n, k) => if (k == .free && ks.lookup n == some .cell) then (n, .cell) else (n, k)
theorem lookup_mem2 {β : Type} : ∀ {l : List (Str × β)} {x : Str} {v : β}, l.lookup x = some v → (x, v) ∈ l
  | (y, w) :: r, x, v, h => by
    rw [List.lookup_cons] at h
    cases e : x == y with
    | true => simp only [e] at h; cases h; rw [eq_of_beq e]; exact .head _
    | false => simp only [e] at h; exact .tail _ (lookup_mem2 h)
theorem relab_eq {names : List (Str × NameKind)} (E : EnvIs env ks F cl) (hf : (names.all fun x => x.2 != .free || (ks.lookup x.1).isSome) = true) :
    (names.map fun (n, k) => if (k == NameKind.free && env.scope.kind == .function && env.kindOf n == some .cell) then (n, NameKind.cell) else (n, k)) = relabL ks names := by
  unfold relabL
  refine List.map_congr_left fun x hx => ?_
  obtain ⟨m, k⟩ := x
  have := List.all_eq_true.mp hf _ hx
  cases k with
  | free =>
    simp only [bne_self_eq_false, Bool.false_or] at this
    obtain ⟨k', hk'⟩ := Option.isSome_iff_exists.mp this
    have e : env.kindOf m = some k' := E.kd (m, k') (lookup_mem2 hk')
    show (if (_ && _ && env.kindOf m == some .cell) = true then _ else _) = (if (_ && ks.lookup m == some .cell) = true then _ else _)
    rw [e, hk', E.kind]
    rfl
  | _ => rfl
noncomputable def CompQ (C : Addr) (acc : Value) (Q : Value → Led → Prop) : Flow → Led → Prop := fun ι L => ∃ m L₄, Rem (C, .ns m) L L₄ ∧ L₄ ≠ [] ∧ Q acc L₄
noncomputable def SelfIter (B : Bg) (n : Nat) (it : Value) (L : Led) : Prop := ∀ Q : Value → Led → Prop, Q it L → T B n (pyIter it) L Q
theorem T_compBlock {elt target iter : Expr} {scope : Scope} {pos : Pos} {use : Option (Value → Sem Unit)} (ks' : List (Str × NameKind)) (cl' : List (Str × Addr)) (fr : List (Str × Option Value)) {P : Addr → Value → Flow → Led → Prop} {Q : Value → Led → Prop}
    (E : EnvIs env ks F cl) (hcl : closL scope.names cl [] = some cl') (hnd' : (cl'.map (·.1)).Nodup) (hkind : scope.kind = .function) (hnames : (scope.names.all fun x => x.2 != .local || scope.names.lookup x.1 == some .local) = true) (hcell : (scope.names.all fun x => x.2 != .cell) = true)
    (hf : (scope.names.all fun x => x.2 != .free || (ks.lookup x.1).isSome) = true)
    (hks : (ks'.all fun p => (relabL ks scope.names).lookup p.1 == some p.2 && !(p.1 == ("__debug__" : Str)) && !(p.1 == ("__classdict__" : Str))) = true)
    (hfr : (fr.all fun p => p.2.isNone) = true) (hfd : decide (fr.map (·.1)).Nodup = true)
    (hs : ∀ x, foldedSetIterable iter env x = pure x)
    (hpost : ∀ A, Rm n A → ∀ acc C f L₃ s', St B L₃ s' → P C acc f L₃ → compPost (model B.prog B.w) A (fun ι ι => False) use (fun v s' => ∃ L', St B L' s' ∧ Q v L') acc C (.ok f) s')
    (h : T B n (eval iter env) L fun x L₁ => T B n (pyIter x) L₁ fun it L₂ => ∀ acc C cenv, EnvIs cenv ks' C cl' →
      SelfIter B n it ((C, .ns fr) :: (acc, .ls []) :: L₂) ∧ Tc B n (.compLoop (.ListComp elt [⟨target, iter, [], 0⟩] scope pos) 0 it (.ref acc) cenv) ((C, .ns fr) :: (acc, .ls []) :: L₂) (P C (.ref acc))) :
    T B n (comprehension (.ListComp elt [⟨target, iter, [], 0⟩] scope pos) scope env (firstIterPos [⟨target, iter, [], 0⟩] pos) (newList []) false (eval iter env) use) L Q := fun A hA s S => by
  refine wpAny_comprehension_free (cl := cl') (g := ⟨target, iter, [], 0⟩) (gs := []) rfl hs (closure_is E hcl) hkind (fun x hx hl => ?_) ?_
  · have := List.all_eq_true.mp hnames x hx
    rw [hl] at this
    simpa using this
  refine wpAny_mono (h A hA s S) (fun x s₁ ⟨L₁, S₁, h1⟩ => wpAny_mono (h1 A hA s₁ S₁) (fun it s₂ ⟨L₂, S₂, h2⟩ => ?_) fun ι ι z => z) fun ι ι z => z
  refine wpAny_mono (T_newList (vs := []) (Q := fun v L => ∃ acc, v = .ref acc ∧ L = (acc, .ls []) :: L₂) (Nat.zero_le _) (fun a => ⟨a, rfl, rfl⟩) A hA s₂ S₂) (fun v s₃ ⟨L₃, S₃, acc, e1, e2⟩ => ?_) fun ι ι z => z
  subst e1 e2
  refine wpAny_newFunctionEnv (fun x hx => by simpa using List.all_eq_true.mp hcell x hx) (fun x hx => nomatch hx) (fun h' hns hsb => ?_) hkind
  have hkp : ∀ b o, s₃.heap.get? b = some o → h'.get? b = some o := fun b o e => hsb.extBut b o (Nat.ne_of_lt (Heap.lt_size e)) (Heap.get?_push_of_some _ e)
  have lt : s₃.heap.objs.size < h'.objs.size := hns.lt
  have S₄ : St B ((s₃.heap.objs.size, .ns fr) :: (acc, .ls []) :: L₂) { s₃ with heap := h' } := S₃.add hkp (Nat.le_of_lt lt) (Nat.le_refl _) ⟨by
    show h'.Ns _ (fun x => (fr.lookup x).join)
    have : (fun x => (fr.lookup x).join) = fun x => (([] : List (Str × Value)).reverse.lookup x) := funext fun x => by
      cases e : fr.lookup x with
      | none => rfl
      | some o =>
        have := List.all_eq_true.mp hfr _ (lookup_mem2 e)
        simp only [Option.isNone_iff_eq_none] at this
        subst this
        rfl
    rw [this]; exact hns, of_decide_eq_true hfd⟩
  have hks' : ∀ p ∈ ks', (relabL ks scope.names).lookup p.1 = some p.2 ∧ (p.1 == ("__debug__" : Str)) = false ∧ (p.1 == ("__classdict__" : Str)) = false := fun p hp => by
    have := List.all_eq_true.mp hks p hp
    simp only [Bool.and_eq_true, Bool.not_eq_true', beq_iff_eq] at this
    exact ⟨this.1.1, this.1.2, this.2⟩
  have E' : ∀ e : Env, e.scope = relabel scope env → e.locals = s₃.heap.objs.size → e.globals = env.globals → e.builtins = env.builtins → e.cells = cl' → EnvIs e ks' s₃.heap.objs.size cl' := fun e e1 e2 e3 e4 e5 =>
    ⟨by rw [e1]; exact hkind, fun p hp => by
      show e.scope.names.lookup p.1 = some p.2
      rw [e1]
      show List.lookup p.1 (List.map _ scope.names) = _
      rw [relab_eq E hf]
      exact (hks' p hp).1, fun p hp => (hks' p hp).2, e2, e3.trans E.glob, e4.trans E.bi, e5, hnd'⟩
  obtain ⟨hself, hloop⟩ := h2 acc _ { newEnv scope s₃.heap.objs.size env.globals cl' env.qual none .none (some env) builtinsNs with scope := relabel scope env } (E' _ rfl rfl rfl rfl rfl)
  have S₅ := S₄.toks (t := s₃.toks + ([] : List (Str × Value)).length) (Nat.le_add_right_of_le S₄.size)
  have out : ∀ s', ∀ L₃, St B L₃ s' → ∀ f, P s₃.heap.objs.size (.ref acc) f L₃ → compPost (model B.prog B.w) A (fun ι ι => False) use (fun v s' => ∃ L', St B L' s' ∧ Q v L') (.ref acc) s₃.heap.objs.size (.ok f) s' := fun s' L₃ S' f hp => hpost A hA _ _ _ _ _ S' hp
  refine codeAny_compStart_list ?_ ?_
  · exact codeAny_mono (hloop A hA _ S₅) fun r s' ⟨f, L₃, e, S', hp⟩ => by subst e; exact out _ _ S' _ hp
  · refine wpAny_mono (hself (fun v L => v = it ∧ L = (s₃.heap.objs.size, .ns fr) :: (acc, .ls []) :: L₂) ⟨rfl, rfl⟩ A hA _ S₅) (fun v s₆ ⟨L₆, S₆, e1, e2⟩ => ?_) notedBy_false
    subst e1 e2
    exact codeAny_mono (hloop A hA _ S₆) fun r s' ⟨f, L₃, e, S', hp⟩ => by subst e; exact out _ _ S' _ hp
theorem comp_drop {C : Addr} {m : List (Str × Option Value)} {L₃ L₄ : Led} {s' : Shared} {h' : Heap} (S' : St B L₃ s') (hr : Rem (C, .ns m) L₃ L₄) (hne : L₄ ≠ []) (hs : Heap.SameBut C s'.heap h') : St B L₄ { s' with heap := h' } :=
  (S'.rem hr).ext hs.extBut rfl hne
theorem T_ListComp {elt target iter : Expr} {scope : Scope} {pos : Pos} (ks' : List (Str × NameKind)) (cl' : List (Str × Addr)) (fr : List (Str × Option Value)) {Q : Value → Led → Prop}
    (E : EnvIs env ks F cl) (hcl : closL scope.names cl [] = some cl') (hnd' : (cl'.map (·.1)).Nodup) (hkind : scope.kind = .function) (hnames : (scope.names.all fun x => x.2 != .local || scope.names.lookup x.1 == some .local) = true) (hcell : (scope.names.all fun x => x.2 != .cell) = true)
    (hf : (scope.names.all fun x => x.2 != .free || (ks.lookup x.1).isSome) = true)
    (hks : (ks'.all fun p => (relabL ks scope.names).lookup p.1 == some p.2 && !(p.1 == ("__debug__" : Str)) && !(p.1 == ("__classdict__" : Str))) = true)
    (hfr : (fr.all fun p => p.2.isNone) = true) (hfd : decide (fr.map (·.1)).Nodup = true)
    (hs : ∀ x, foldedSetIterable iter env x = pure x)
    (h : T B n (eval iter env) L fun x L₁ => T B n (pyIter x) L₁ fun it L₂ => ∀ acc C cenv, EnvIs cenv ks' C cl' →
      SelfIter B n it ((C, .ns fr) :: (acc, .ls []) :: L₂) ∧ Tc B n (.compLoop (.ListComp elt [⟨target, iter, [], 0⟩] scope pos) 0 it (.ref acc) cenv) ((C, .ns fr) :: (acc, .ls []) :: L₂) (CompQ C (.ref acc) Q)) :
    T B n (eval (.ListComp elt [⟨target, iter, [], 0⟩] scope pos) env) L Q := by
  rw [eval_ListComp]
  refine T_compBlock ks' cl' fr (P := fun C acc => CompQ C acc Q) E hcl hnd' hkind hnames hcell hf hks hfr hfd hs (fun A hA acc C f L₃ s' S' hp => ?_) h
  obtain ⟨m, L₄, hr, hne, hq⟩ := hp
  exact ⟨_, (S'.its _ (hr.perm.mem_iff.mpr (.head _))).1, fun h' hs' => ⟨L₄, comp_drop S' hr hne hs', hq⟩⟩
noncomputable def CompP (B : Bg) (n : Nat) (elt target : Expr) (acc : Value) (cenv : Env) (Q : Flow → Led → Prop) (J : Led → Prop) : Option Value → Led → Prop
  | none, L => Q .next L
  | some v, L => T B n (assign target cenv v) L fun ι L₂ => T B n (eval elt cenv) L₂ fun x L₃ => T B n (call (.builtin "list.append") [acc, x] []) L₃ fun ι L₄ => J L₄
theorem Tc_comp {elt target iter : Expr} {scope : Scope} {pos : Pos} {it acc : Value} {cenv : Env} {Q : Flow → Led → Prop} (I : Nat → Led → Prop) (ht : ∀ v, letOwnedTupleGo target it v = pure ())
    (turn : ∀ k L, I k L → T B n (pyNext it) L (CompP B n elt target acc cenv Q fun L₄ => ∃ m L₅, m < k ∧ Pick L₅ L₄ ∧ I m L₅))
    (k : Nat) (h : I k L) : Tc B n (.compLoop (.ListComp elt [⟨target, iter, [], 0⟩] scope pos) 0 it acc cenv) L Q := fun A hA s S => by
  refine codeAny_compLoop_list (fun k s => ∃ L, St B L s ∧ I k L) (fun k s ⟨L, S, hI⟩ => ?_) k ⟨L, S, h⟩ ht
  refine wpAny_mono (turn k L hI A hA s S) (fun r s₁ ⟨L₁, S₁, h1⟩ => ?_) notedBy_false
  cases r with
  | none => exact ⟨_, L₁, rfl, S₁, h1⟩
  | some v =>
    refine wpAny_mono (h1 A hA s₁ S₁) (fun _ s₂ ⟨L₂, S₂, h2⟩ => ?_) notedBy_false
    refine wpAny_mono (h2 A hA s₂ S₂) (fun _ s₃ ⟨L₃, S₃, h3⟩ => ?_) notedBy_false
    refine wpAny_mono (h3 A hA s₃ S₃) (fun _ s₄ ⟨L₄, S₄, m, L₅, hm, hp, hI⟩ => ?_) notedBy_false
    exact ⟨m, hm, L₅, S₄.pick hp, hI⟩
noncomputable def UnC (B : Bg) (n : Nat) (elt target : Expr) (it acc : Value) (cenv : Env) (Q : Flow → Led → Prop) : Nat → Led → Prop
  | 0 => fun L => T B n (pyNext it) L (CompP B n elt target acc cenv Q fun ι => False)
  | k + 1 => fun L => T B n (pyNext it) L (CompP B n elt target acc cenv Q (UnC B n elt target it acc cenv Q k))
theorem CompP_mono {elt target : Expr} {acc : Value} {cenv : Env} {Q : Flow → Led → Prop} {J K : Led → Prop} (h : ∀ L, J L → K L) : ∀ r L, CompP B n elt target acc cenv Q J r L → CompP B n elt target acc cenv Q K r L := by
  intro r L h1
  cases r with
  | none => exact h1
  | some v => exact T_mono h1 fun ι ι h2 => T_mono h2 fun ι ι h3 => T_mono h3 fun ι L h4 => h L h4
theorem Tc_unC {elt target iter : Expr} {scope : Scope} {pos : Pos} {it acc : Value} {cenv : Env} {Q : Flow → Led → Prop} (ht : ∀ v, letOwnedTupleGo target it v = pure ()) (k : Nat) (h : UnC B n elt target it acc cenv Q k L) :
    Tc B n (.compLoop (.ListComp elt [⟨target, iter, [], 0⟩] scope pos) 0 it acc cenv) L Q := by
  refine Tc_comp (UnC B n elt target it acc cenv Q) ht (fun k L hI => ?_) k h
  cases k with
  | zero => exact T_mono hI (CompP_mono fun ι h => h.elim)
  | succ k => exact T_mono hI (CompP_mono fun L h => ⟨k, L, Nat.lt_succ_self _, .refl, h⟩)
theorem self_ls {l it : Addr} {i : Nat} (hm : (it, lsIter l i) ∈ L) : SelfIter B n (.ref it) L := fun Q h A hA s S => by
  have ho : s.heap.get? it = some { cls := .type "list_iterator", data := .fields ([.ref l, .int i 0] : List Value).toArray } := S.its _ hm
  exact wpAny_pyIter_listiter ⟨_, ho, rfl, rfl⟩ ⟨L, S, h⟩
theorem self_range {it : Addr} {x left : Int} (hm : (it, rngIter x left) ∈ L) : SelfIter B n (.ref it) L := fun Q h A hA s S =>
  wpAny_pyIter_rangeiter (S.its _ hm) ⟨L, S, h⟩
theorem T_s_AsComp {elt target iter : Expr} {scope : Scope} {pos cpos px : Pos} {x : Str} {rest : List Stmt} (ks' : List (Str × NameKind)) (cl' : List (Str × Addr)) (fr : List (Str × Option Value)) {Q : Flow → Led → Prop}
    (E : EnvIs env ks F cl) (hsw : swapsWithSole [.Name x px] (.ListComp elt [⟨target, iter, [], 0⟩] scope cpos) pos.line env = pure true) (hcl : closL scope.names cl [] = some cl') (hnd' : (cl'.map (·.1)).Nodup) (hkind : scope.kind = .function) (hnames : (scope.names.all fun x => x.2 != .local || scope.names.lookup x.1 == some .local) = true) (hcell : (scope.names.all fun x => x.2 != .cell) = true)
    (hf : (scope.names.all fun x => x.2 != .free || (ks.lookup x.1).isSome) = true)
    (hks : (ks'.all fun p => (relabL ks scope.names).lookup p.1 == some p.2 && !(p.1 == ("__debug__" : Str)) && !(p.1 == ("__classdict__" : Str))) = true)
    (hfr : (fr.all fun p => p.2.isNone) = true) (hfd : decide (fr.map (·.1)).Nodup = true)
    (hs : ∀ x, foldedSetIterable iter env x = pure x)
    (h : T B n (eval iter env) L fun x' L₁ => T B n (pyIter x') L₁ fun it L₂ => ∀ acc C cenv, EnvIs cenv ks' C cl' →
      SelfIter B n it ((C, .ns fr) :: (acc, .ls []) :: L₂) ∧ Tc B n (.compLoop (.ListComp elt [⟨target, iter, [], 0⟩] scope cpos) 0 it (.ref acc) cenv) ((C, .ns fr) :: (acc, .ls []) :: L₂)
        (fun ι L₃ => T B n (storeName env x (.ref acc)) L₃ fun ι L₄ => ∃ m L₅, Rem (C, .ns m) L₄ L₅ ∧ L₅ ≠ [] ∧ T B n (execs rest env) L₅ Q)) :
    T B n (execs (.Assign [.Name x px] (.ListComp elt [⟨target, iter, [], 0⟩] scope cpos) pos :: rest) env) L Q := by
  refine T_seq ?_
  rw [arm_exec_Assign, hsw]
  refine T_bind (T_standAt (T_bind (T_pure ?_)))
  refine T_bind (T_mono (Q := fun ι L' => T B n (execs rest env) L' Q) ?_ fun ι ι h1 => T_pure h1)
  show T B n (comprehension (.ListComp elt [⟨target, iter, [], 0⟩] scope cpos) scope env (firstIterPos [⟨target, iter, [], 0⟩] cpos) (newList []) false (eval iter env) (some fun v => assign (.Name x px) env v) >>= fun ι => pure ()) L _
  refine T_bind (T_mono (Q := fun ι L' => T B n (execs rest env) L' Q) ?_ fun ι ι h1 => T_pure h1)
  refine T_compBlock ks' cl' fr (P := fun C acc ι L₃ => T B n (storeName env x acc) L₃ fun ι L₄ => ∃ m L₅, Rem (C, .ns m) L₄ L₅ ∧ L₅ ≠ [] ∧ T B n (execs rest env) L₅ Q) E hcl hnd' hkind hnames hcell hf hks hfr hfd hs (fun A hA acc C f L₃ s' S' hp => ?_) h
  refine wpAny_mono (T_assignName hp A hA s' S') (fun _ s'' ⟨L₄, S'', m, L₅, hr, hne, hq⟩ => ?_) fun ι ι z => z
  exact ⟨_, (S''.its _ (hr.perm.mem_iff.mpr (.head _))).1, fun h' hs' => ⟨L₅, comp_drop S'' hr hne hs', hq⟩⟩
theorem Tc_comp_ls {elt target iter : Expr} {scope : Scope} {pos : Pos} {l it : Addr} {acc : Value} {vs : List Value} {cenv : Env} {Q : Flow → Led → Prop} (Inv : List Value → Led → Prop) (hl : ∀ rest L, Inv rest L → (l, It.ls vs) ∈ L)
    (ht : ∀ it v, letOwnedTupleGo target it v = pure ())
    (turn : ∀ (ia : Addr) (X : It) (x : Value) (rest : List Value) (L : Led), Inv (x :: rest) L → T B (n + 1) (assign target cenv x) ((ia, X) :: L) fun ι L₁ => T B (n + 1) (eval elt cenv) L₁ fun y L₂ => T B (n + 1) (call (.builtin "list.append") [acc, y] []) L₂ fun ι L₂ => ∃ L₃, Pick ((ia, X) :: L₃) L₂ ∧ Inv rest L₃)
    (fin : ∀ L, Inv [] L → Q .next L) {L₀ : Led} (hr : Rem (it, lsIter l 0) L L₀) (h : Inv vs L₀) : Tc B (n + 1) (.compLoop (.ListComp elt [⟨target, iter, [], 0⟩] scope pos) 0 (.ref it) acc cenv) L Q := by
  refine Tc_rem hr (Tc_comp (fun k L => ∃ i L₀ r, L = (it, lsIter l i) :: L₀ ∧ vs = vs.take i ++ r ∧ k = r.length ∧ Inv r L₀) (fun v => ht _ v) ?_ vs.length ⟨0, L₀, vs, rfl, by simp, rfl, h⟩)
  rintro k L' ⟨i, L₀, r, rfl, hv, hk, hI⟩
  have hd : r = vs.drop i := by
    have := List.take_append_drop i vs
    exact (List.append_cancel_left (this.trans hv)).symm
  cases r with
  | nil => exact T_end_ls .head (hl _ _ hI) (List.getElem?_eq_none (List.drop_eq_nil_iff.mp hd.symm)) (fin _ hI)
  | cons y r =>
    have hx : vs[i]? = some y := by
      have : (vs.drop i)[0]? = some y := by rw [← hd]; rfl
      simpa using this
    refine T_next_ls .head (hl _ _ hI) hx ?_
    refine T_mono (turn it (lsIter l (i + 1)) y r L₀ hI) fun ι L₁ h1 => T_mono h1 fun ι L₁ h1 => T_mono h1 fun f L₂ ⟨L₃, hp, hI'⟩ => ?_
    exact ⟨r.length, _, by rw [hk]; exact Nat.lt_succ_self _, hp, i + 1, L₃, r, rfl, by
      have e : r = vs.drop (i + 1) := by rw [← List.drop_drop, ← hd]; rfl
      rw [e, List.take_append_drop], rfl, hI'⟩
end
section
variable {B : Bg} {n : Nat} {L L' L₁ : Led} {env : Env} {ks : List (Str × NameKind)} {F : Addr} {cl : List (Str × Addr)} {a b : Int} {t u : Tok} {pos : Pos}
theorem T_t_And {l r : Expr} {wh : Sem Value} {Q : Bool → Led → Prop} (h : T B n (isTrue l env (eval l env)) L fun b L₁ => (b = true → T B n (isTrue r env (eval r env)) L₁ Q) ∧ (b = false → Q false L₁)) : T B n (isTrue (.BoolOp .And [l, r] pos) env wh) L Q := by
  rw [arm_isTrue_BoolOp, arm_allTrue_cons]
  refine T_bind (T_mono h fun b L₁ h1 => ?_)
  cases b with
  | false => exact T_pure (h1.2 rfl)
  | true =>
    show T B n (allTrue .And [r] env) L₁ Q
    rw [arm_allTrue_cons]
    refine T_bind (T_mono (h1.1 rfl) fun b L₂ h2 => ?_)
    cases b with
    | true => exact T_pure h2
    | false => exact T_pure h2
theorem eqvAll_ints : ∀ xs ys : List Int, PyData.eqvAll (xs.map .int) (ys.map .int) = decide (xs = ys)
  | [], [] => rfl
  | [], _ :: _ => rfl
  | _ :: _, [] => rfl
  | x :: xs, y :: ys => by
    simp only [List.map_cons, PyData.eqvAll, PyData.eqv, eqvAll_ints xs ys, List.cons.injEq, Bool.decide_and]
    rfl
theorem eqvAll_strs : ∀ xs ys : List Str, PyData.eqvAll (xs.map .str) (ys.map .str) = decide (xs = ys)
  | [], [] => rfl
  | [], _ :: _ => rfl
  | _ :: _, [] => rfl
  | x :: xs, y :: ys => by
    simp only [List.map_cons, PyData.eqvAll, PyData.eqv, eqvAll_strs xs ys, List.cons.injEq, Bool.decide_and]
    congr 1
theorem eqvAll_lists : ∀ xs ys : List (List Int), PyData.eqvAll (xs.map fun x => .list (x.map .int)) (ys.map fun x => .list (x.map .int)) = decide (xs = ys)
  | [], [] => rfl
  | [], _ :: _ => rfl
  | _ :: _, [] => rfl
  | x :: xs, y :: ys => by
    simp only [List.map_cons, PyData.eqvAll, PyData.eqv, eqvAll_lists xs ys, eqvAll_ints, List.cons.injEq, Bool.decide_and]
theorem any_ints (xs : List Int) (h : Int) : ((xs.map PyData.int).any fun y => PyData.eqv y (.int h)) = decide (h ∈ xs) := by
  induction xs with
  | nil => rfl
  | cons x xs ih =>
    simp only [List.map_cons, List.any_cons, ih, PyData.eqv]
    by_cases e : x = h
    · subst e; simp
    · rw [show (x == h) = false from by simpa using e]
      simp
      exact fun q => absurd q.symm e
theorem depth_ints : ∀ xs : List Int, PyData.depthAll (xs.map .int) = 0
  | [] => rfl
  | x :: xs => by simp only [List.map_cons, PyData.depthAll, PyData.depth, depth_ints xs]; rfl
theorem depth_strs : ∀ xs : List Str, PyData.depthAll (xs.map .str) = 0
  | [] => rfl
  | x :: xs => by simp only [List.map_cons, PyData.depthAll, PyData.depth, depth_strs xs]; rfl
theorem canLay_strs : ∀ xs : List Str, (∀ x ∈ xs, PyData.strOk x = true) → PyData.canLayAll0 (xs.map .str) = true
  | [], _ => rfl
  | x :: xs, h => by simp only [List.map_cons, PyData.canLayAll0, PyData.canLay0, canLay_strs xs fun y hy => h y (.tail _ hy), h x (.head _), Bool.and_self]
theorem T_inInts {l : Addr} {vs : List Value} {ns : List Int} {Q : Value → Led → Prop} (hm : (l, It.ls vs) ∈ L) (hi : IntsAre vs ns) (hn : 1 ≤ n) (h : Q (.bool (decide (a ∈ ns))) L) : T B n (compareOp .In (.int a t) (.ref l)) L Q := by
  refine T_inData (d := .int a) (xs := ns.map .int) rd_int (rd_ls hm (rdAll_ints hi)) rfl (canLayAll_ints ns) (by simp only [PyData.depth]; omega) ?_
  rw [any_ints]; exact h
theorem T_eqInts {l r : Addr} {vs ws : List Value} {ns ms : List Int} {Q : Value → Led → Prop} (hm : (l, It.ls vs) ∈ L) (hi : IntsAre vs ns) (hm2 : (r, It.ls ws) ∈ L) (hi2 : IntsAre ws ms) (hn : 1 ≤ n) (h : Q (.bool (decide (ns = ms))) L) : T B n (compareOp .Eq (.ref l) (.ref r)) L Q := by
  refine T_eqData (rd_ls hm (rdAll_ints hi)) (rd_ls hm2 (rdAll_ints hi2)) (by simp only [PyData.canLay0, canLayAll_ints]) (by simp only [PyData.canLay0, canLayAll_ints]) (by simp only [PyData.depth, depth_ints]; omega) ?_
  rw [show PyData.eqv (.list (ns.map .int)) (.list (ms.map .int)) = PyData.eqvAll (ns.map .int) (ms.map .int) from rfl, eqvAll_ints]
  exact h
end
section
variable {B : Bg} {n : Nat} {L L' L₁ : Led} {env : Env} {ks : List (Str × NameKind)} {F c : Addr} {cl : List (Str × Addr)} {x : Str} {v : Value} {pos : Pos} {rest : List Stmt} {target : Expr} {it : Value} {body orelse : List Stmt} {Q : Flow → Led → Prop}
noncomputable def ForP (B : Bg) (n : Nat) (target : Expr) (it : Value) (body orelse : List Stmt) (env : Env) (Q : Flow → Led → Prop) (J : Led → Prop) : Option Value → Led → Prop
  | none, L => T B n (execs orelse env) L Q
  | some v, L => T B n (letOwnedTupleGo target it v) L fun ι L₂ => T B n (assign target env v) L₂ fun ι L₃ => T B n (execs body env) L₃ (LoopQ B Q J)
noncomputable def Un (B : Bg) (n : Nat) (target : Expr) (it : Value) (body orelse : List Stmt) (env : Env) (Q : Flow → Led → Prop) : Nat → Led → Prop
  | 0 => fun L => T B n (pyNext it) L (ForP B n target it body orelse env Q fun ι => False)
  | k + 1 => fun L => T B n (pyNext it) L (ForP B n target it body orelse env Q (Un B n target it body orelse env Q k))
theorem LoopQ_mono {J K : Led → Prop} (h : ∀ L, J L → K L) : ∀ f L, LoopQ B Q J f L → LoopQ B Q K f L := by
  intro f L h1
  cases f with
  | next => exact h L h1
  | cont => exact h L h1
  | brk => exact h1
  | ret v => exact h1
theorem Tc_un (k : Nat) (h : Un B n target it body orelse env Q k L) : Tc B n (.forLoop target it body orelse env) L Q := by
  refine Tc_for (Un B n target it body orelse env Q) (fun k L hI => ?_) k h
  cases k with
  | zero =>
    refine T_mono hI fun r L₁ h1 => ?_
    cases r with
    | none => exact h1
    | some v => exact T_mono h1 fun ι L₂ h2 => T_mono h2 fun ι L₃ h3 => T_mono h3 (LoopQ_mono fun ι h => h.elim)
  | succ k =>
    refine T_mono hI fun r L₁ h1 => ?_
    cases r with
    | none => exact h1
    | some v => exact T_mono h1 fun ι L₂ h2 => T_mono h2 fun ι L₃ h3 => T_mono h3 (LoopQ_mono fun L₄ h => ⟨k, L₄, Nat.lt_succ_self _, .refl, h⟩)
theorem un_zero (h : T B n (pyNext it) L (ForP B n target it body orelse env Q fun ι => False)) : Un B n target it body orelse env Q 0 L := h
theorem un_succ {k : Nat} (h : T B n (pyNext it) L (ForP B n target it body orelse env Q (Un B n target it body orelse env Q k))) : Un B n target it body orelse env Q (k + 1) L := h
theorem forp_none {J : Led → Prop} (h : T B n (execs orelse env) L Q) : ForP B n target it body orelse env Q J none L := h
theorem forp_some {J : Led → Prop} (ht : letOwnedTupleGo target it v = pure ()) (h : T B n (assign target env v) L fun ι L₃ => T B n (execs body env) L₃ (LoopQ B Q J)) : ForP B n target it body orelse env Q J (some v) L := by
  show T B n (letOwnedTupleGo target it v) L _
  rw [ht]
  exact T_pure h
theorem T_hFor {i : Expr} (h : T B n (execs (.For target i body orelse pos :: rest) env) L Q) : T B n (execs (.For target i body orelse pos :: rest) env) L Q := h
theorem forp_is {J : Led → Prop} (h : ForP B n target it body orelse env Q J (some v) L) : ForP B n target it body orelse env Q J (some v) L := h
theorem T_aioE_cons {e : Expr} {es : List Expr} {y : Value} {xs : List Value} {Q : Unit → Led → Prop} (he : assignEach (e :: es) env = (false, assign e env) :: assignEach es env) (h : T B n (assign e env y) L fun ι L₁ => T B n (assignInOrder ((assignEach es env).map (·.2)) xs) L₁ Q) :
    T B n (assignInOrder ((assignEach (e :: es) env).map (·.2)) (y :: xs)) L Q := by
  rw [he]
  exact T_aio_cons h
theorem T_aioE_nil {xs : List Value} {Q : Unit → Led → Prop} (h : Q () L) : T B n (assignInOrder ((assignEach [] env).map (·.2)) xs) L Q := T_aio_nil h
theorem T_isAioE {e : Expr} {es : List Expr} {y : Value} {xs : List Value} {Q : Unit → Led → Prop} (h : T B n (assignInOrder ((assignEach (e :: es) env).map (·.2)) (y :: xs)) L Q) : T B n (assignInOrder ((assignEach (e :: es) env).map (·.2)) (y :: xs)) L Q := h
theorem T_crange1 {a : Int} {t : Tok} {Q : Value → Led → Prop} (h : T B n (call (.type "range") [.int a t] []) L Q) : T B n (call (.type "range") [.int a t] []) L Q := h
theorem T_cmin2 {a b : Int} {t u : Tok} {Q : Value → Led → Prop} (h : T B n (call (.builtin "min") [.int a t, .int b u] []) L Q) : T B n (call (.builtin "min") [.int a t, .int b u] []) L Q := h
theorem T_cabs {a : Int} {t : Tok} {Q : Value → Led → Prop} (h : T B n (call (.builtin "abs") [.int a t] []) L Q) : T B n (call (.builtin "abs") [.int a t] []) L Q := h
theorem T_s_Swap2 {y1 y2 : Str} {elts : List Expr} {k k' : Nat} {tpos p' : Pos} {e1 e2 : Expr} (hs : swapsWithSole [.Tuple elts k tpos] (.Tuple [e1, e2] k' p') pos.line env = pure false) (hw : swappedStores [.Tuple elts k tpos] (.Tuple [e1, e2] k' p') env = pure (some [y1, y2]))
    (h1 : starEach [e1, e2] env = (false, eval e1 env) :: starEach [e2] env) (h2 : starEach [e2] env = [(false, eval e2 env)])
    (h : T B n (eval e1 env) L fun a L₁ => T B n (eval e2 env) L₁ fun b L₂ => T B n (bindName env y2 b) L₂ fun ι L₃ => T B n (bindName env y1 a) L₃ fun ι L₄ => T B n (execs rest env) L₄ Q) :
    T B n (execs (.Assign [.Tuple elts k tpos] (.Tuple [e1, e2] k' p') pos :: rest) env) L Q := by
  refine T_s_AsSwap hs hw (T_Tuple ?_)
  refine T_items_cons h1 (T_mono h fun a L₁ ha => T_items_cons h2 (T_mono ha fun b L₂ hb => T_items_nil ?_))
  refine ⟨(by decide : (2 : Nat) ≤ sizeLine), fun t => ?_⟩
  refine T_unpackItems (.head _) rfl ?_
  exact T_pick (.skip .refl) (T_aio_cons (T_mono hb fun ι L₃ hc => T_aio_cons (T_mono hc fun ι L₄ hd => T_aio_nil hd)))
theorem T_s_Swap3 {y1 y2 y3 : Str} {elts : List Expr} {k k' : Nat} {tpos p' : Pos} {e1 e2 e3 : Expr} (hs : swapsWithSole [.Tuple elts k tpos] (.Tuple [e1, e2, e3] k' p') pos.line env = pure false) (hw : swappedStores [.Tuple elts k tpos] (.Tuple [e1, e2, e3] k' p') env = pure (some [y1, y2, y3]))
    (h1 : starEach [e1, e2, e3] env = (false, eval e1 env) :: starEach [e2, e3] env) (h2 : starEach [e2, e3] env = (false, eval e2 env) :: starEach [e3] env) (h3 : starEach [e3] env = [(false, eval e3 env)])
    (h : T B n (eval e1 env) L fun a L₁ => T B n (eval e2 env) L₁ fun b L₂ => T B n (eval e3 env) L₂ fun c L₂ => T B n (bindName env y3 c) L₂ fun ι L₂ => T B n (bindName env y2 b) L₂ fun ι L₃ => T B n (bindName env y1 a) L₃ fun ι L₄ => T B n (execs rest env) L₄ Q) :
    T B n (execs (.Assign [.Tuple elts k tpos] (.Tuple [e1, e2, e3] k' p') pos :: rest) env) L Q := by
  refine T_s_AsSwap hs hw (T_Tuple ?_)
  refine T_items_cons h1 (T_mono h fun a L₁ ha => T_items_cons h2 (T_mono ha fun b L₂ hb => T_items_cons h3 (T_mono hb fun c L₂ hb => T_items_nil ?_)))
  refine ⟨(by decide : (3 : Nat) ≤ sizeLine), fun t => ?_⟩
  refine T_unpackItems (.head _) rfl ?_
  exact T_pick (.skip .refl) (T_aio_cons (T_mono hb fun ι L₃ hc => T_aio_cons (T_mono hc fun ι L₃ hc => T_aio_cons (T_mono hc fun ι L₄ hd => T_aio_nil hd))))
theorem T_hSwap2 {elts : List Expr} {k k' : Nat} {tpos p' : Pos} {e1 e2 : Expr} (h : T B n (execs (.Assign [.Tuple elts k tpos] (.Tuple [e1, e2] k' p') pos :: rest) env) L Q) : T B n (execs (.Assign [.Tuple elts k tpos] (.Tuple [e1, e2] k' p') pos :: rest) env) L Q := h
theorem T_hSwap3 {elts : List Expr} {k k' : Nat} {tpos p' : Pos} {e1 e2 e3 : Expr} (h : T B n (execs (.Assign [.Tuple elts k tpos] (.Tuple [e1, e2, e3] k' p') pos :: rest) env) L Q) : T B n (execs (.Assign [.Tuple elts k tpos] (.Tuple [e1, e2, e3] k' p') pos :: rest) env) L Q := h
theorem swap2_is {y1 y2 : Str} {k k' : Nat} {p1 p2 p p' : Pos} {e1 e2 : Expr} (E : EnvIs env ks F cl) (h1 : (y1, NameKind.local) ∈ ks) (h2 : (y2, NameKind.local) ∈ ks) (hne : (y2 == y1) = false) (hl : (p2.line == p1.line) = true) (hs : ([e1, e2].any fun | .Starred .. => true | _ => false) = false) (hf : [e1, e2].all (foldedForSure 8) = false) (hc : [e1, e2].all (constantsAlone 8) = false) :
    swappedStores [.Tuple [.Name y1 p1, .Name y2 p2] k p] (.Tuple [e1, e2] k' p') env = pure (some [y1, y2]) := by
  have hb : env.blockKind = .function := by unfold Env.blockKind; rw [E.kind]; rfl
  have q1 : env.kindOf y1 = some .local := E.kd _ h1
  have q2 : env.kindOf y2 = some .local := E.kd _ h2
  have hl1 : (p1.line == p1.line) = true := by simp
  have hl2 : ((Expr.Name y1 p1).pos.line) = p1.line := rfl
  unfold swappedStores
  simp only [List.head?_cons, Option.map_some, Option.getD_some, List.filterMap_cons, List.filterMap_nil, q1, q2, hb, hs, hf, hc, hl2, hl, hl1]
  have e : [y1, y2].eraseDups.length = 2 := by simp [List.eraseDups_cons, hne]
  refine (if_neg (show ¬ (false = true) from Bool.false_ne_true)).trans ?_
  refine (if_neg (show ¬ (_ = true) from by rw [Bool.not_eq_true]; exact hs)).trans ?_
  refine (if_neg (show ¬ ((([y1, y2].length != 2) || ([y1, y2].eraseDups.length != [y1, y2].length)) = true) from by rw [e]; exact Bool.false_ne_true)).trans ?_
  rfl
theorem swap3_is {y1 y2 y3 : Str} {k k' : Nat} {p1 p2 p3 p p' : Pos} {e1 e2 e3 : Expr} (E : EnvIs env ks F cl) (h1 : (y1, NameKind.local) ∈ ks) (h2 : (y2, NameKind.local) ∈ ks) (h3 : (y3, NameKind.local) ∈ ks) (hne : ((y2 == y1) || (y3 == y1) || (y3 == y2)) = false) (hl : (p2.line == p1.line && p3.line == p1.line) = true) (hs : ([e1, e2, e3].any fun | .Starred .. => true | _ => false) = false) (hf : [e1, e2, e3].all (foldedForSure 8) = false) (hc : [e1, e2, e3].all (constantsAlone 8) = false) :
    swappedStores [.Tuple [.Name y1 p1, .Name y2 p2, .Name y3 p3] k p] (.Tuple [e1, e2, e3] k' p') env = pure (some [y1, y2, y3]) := by
  have hb : env.blockKind = .function := by unfold Env.blockKind; rw [E.kind]; rfl
  have q1 : env.kindOf y1 = some .local := E.kd _ h1
  have q2 : env.kindOf y2 = some .local := E.kd _ h2
  have q3 : env.kindOf y3 = some .local := E.kd _ h3
  have hl1 : (p1.line == p1.line) = true := by simp
  have hl2 : ((Expr.Name y1 p1).pos.line) = p1.line := rfl
  obtain ⟨hla, hlb⟩ := Bool.and_eq_true_iff.mp hl
  simp only [Bool.or_eq_false_iff] at hne
  unfold swappedStores
  simp only [List.head?_cons, Option.map_some, Option.getD_some, List.filterMap_cons, List.filterMap_nil, q1, q2, q3, hb, hf, hc, hl2, hla, hlb, hl1]
  have e : [y1, y2, y3].eraseDups.length = 3 := by simp [List.eraseDups_cons, hne]
  refine (if_neg (show ¬ (false = true) from Bool.false_ne_true)).trans ?_
  refine (if_neg (show ¬ (_ = true) from by rw [Bool.not_eq_true]; exact hs)).trans ?_
  refine (if_neg (show ¬ ((([y1, y2, y3].length != 3) || ([y1, y2, y3].eraseDups.length != [y1, y2, y3].length)) = true) from by rw [e]; exact Bool.false_ne_true)).trans ?_
  rfl
theorem range_size {a b : Int} (h : a ≤ b) : Builtin.Range.rangeSize a b 1 = b - a := by
  unfold Builtin.Range.rangeSize
  simp
  omega
theorem range_small {a b : Int} (h : a ≤ b) (h1 : -(2 ^ 62) ≤ a) (h2 : b < 2 ^ 62) (h3 : b - a < 2 ^ 62) : Builtin.Range.small a b 1 = true := by
  unfold Builtin.Range.small
  rw [range_size h]
  unfold Builtin.Range.rangeFitsLong
  simp
  omega
theorem szl {k : Nat} (h : k ≤ 1000) : k ≤ sizeLine := Nat.le_trans h (by decide)
noncomputable def Lm (B : Bg) (n : Nat) (env : Env) (ks : List (Str × NameKind)) (F : Addr) (cl : List (Str × Addr)) (x : Str) (k : NameKind) (L : Led) (Q : Value → Led → Prop) : Prop := EnvIs env ks F cl → (x, k) ∈ ks → T B n (loadName env x) L Q
theorem T_lm {k : NameKind} {Q : Value → Led → Prop} (E : EnvIs env ks F cl) (hk : (x, k) ∈ ks) (h : Lm B n env ks F cl x k L Q) : T B n (loadName env x) L Q := h E hk
theorem lm_f {f : Str → Option Value} {Q : Value → Led → Prop} (hm : (F, It.nf f) ∈ L) (hv : f x = some v) (h : Q v L) : Lm B n env ks F cl x .local L Q := fun E hk => T_ldf E hk hm hv h
theorem lm_cell {Q : Value → Led → Prop} (hc : (x, c) ∈ cl) (hm : (c, It.ce (some v)) ∈ L) (h : Q v L) : Lm B n env ks F cl x .cell L Q := fun E hk => T_ld_cell E hk hc hm h
theorem lm_is_local {Q : Value → Led → Prop} (h : Lm B n env ks F cl x .local L Q) : Lm B n env ks F cl x .local L Q := h
theorem lm_is_cell {Q : Value → Led → Prop} (h : Lm B n env ks F cl x .cell L Q) : Lm B n env ks F cl x .cell L Q := h
theorem erase_perm {α : Type} : ∀ (l : List α) (i : Nat) (h : i < l.length), (l[i] :: l.eraseIdx i).Perm l
  | x :: l, 0, _ => .refl _
  | x :: l, i + 1, h => by
    have h' : i < l.length := by simpa using h
    have ih := erase_perm l i h'
    show (l[i] :: x :: l.eraseIdx i).Perm (x :: l)
    exact (List.Perm.swap _ _ _).trans (.cons x ih)
theorem swap_cell1 {y1 : Str} {p1 p p' : Pos} {ts es : List Expr} {k k' : Nat} (E : EnvIs env ks F cl) (h1 : (y1, NameKind.cell) ∈ ks) : swappedStores [.Tuple (.Name y1 p1 :: ts) k p] (.Tuple es k' p') env = pure none := by
  have q1 : env.kindOf y1 = some .cell := E.kd _ h1
  unfold swappedStores
  simp only [List.filterMap_cons, q1]
  split
  · rfl
  · split
    · rfl
    · refine if_pos ?_
      have hlen : ∀ f : Expr → Option Str, (ts.filterMap f).length ≠ (Expr.Name y1 p1 :: ts).length := fun f => by
        have := List.length_filterMap_le f ts
        simp only [List.length_cons]
        omega
      rw [Bool.or_eq_true]
      refine .inl ?_
      simp only [bne_iff_ne, ne_eq]
      exact hlen _
theorem T_hTupC {y1 : Str} {p1 tpos p' : Pos} {ts es : List Expr} {k k' : Nat} (h : T B n (execs (.Assign [.Tuple (.Name y1 p1 :: ts) k tpos] (.Tuple es k' p') pos :: rest) env) L Q) : T B n (execs (.Assign [.Tuple (.Name y1 p1 :: ts) k tpos] (.Tuple es k' p') pos :: rest) env) L Q := h
end
section
variable {B : Bg} {n : Nat} {L L' L₁ : Led} {env : Env} {ks : List (Str × NameKind)} {F : Addr} {cl : List (Str × Addr)} {a b : Int} {t u : Tok} {pos : Pos}
noncomputable def dnP (m : List (Str × Option Value)) (o : Obj) : Prop := (∃ es ep, o.data = .dict es ep ∧ StrKeys es ∧ UniqKeys es ∧ ∀ name, nsFind es name = (m.lookup name).join) ∧ (m.map (·.1)).Nodup
noncomputable abbrev dn (m : List (Str × Option Value)) : It := .pr (dnP m)
theorem dn_ns1 {h : Heap} {d : Addr} {m : List (Str × Option Value)} (x : (dn m).At h d) : h.Ns1 d fun y => (m.lookup y).join := by
  obtain ⟨o, e, ⟨⟨es, ep, r⟩, _⟩, _⟩ := x
  exact ⟨o, es, ep, e, r⟩
theorem dn_of {h : Heap} {d : Addr} {m : List (Str × Option Value)} (x : h.Ns1 d fun y => (m.lookup y).join) (nd : (m.map (·.1)).Nodup) : (dn m).At h d := by
  obtain ⟨o, es, ep, e, hd, r⟩ := x
  exact ⟨o, e, ⟨⟨es, ep, hd, r⟩, nd⟩, fun vs z => by rw [hd] at z; cases z⟩
structure Cls (B : Bg) (C : Addr) (mN : Str → Option Value) : Prop where
  ob : ∃ nm q N bs sn sub col dd k0 k1 k2 k3 k5, B.h0.get? C = some (excClassObj nm q C N bs [.type "object"] true sn sub false col dd k0 k1 k2 k3 k5 "object.__new__") ∧ B.h0.Ns N mN ∧ (∀ t ∈ B.tabs, C ≠ t.P) ∧ (∀ t ∈ B.tabs, N ≠ t.P)
  ga : mN "__getattribute__" = none
  sa : mN "__setattr__" = none
  gt : mN "__getattr__" = none
structure InstOb (o : Obj) (C dx : Addr) : Prop where
  cls : o.cls = .ref C
  nc : ∀ c, o.data ≠ .cls c
  dict : o.dict = some dx
theorem St.ns0 {s : Shared} {N : Addr} {mN : Str → Option Value} (S : St B L s) (h : B.h0.Ns N mN) (hN : ∀ t ∈ B.tabs, N ≠ t.P) : s.heap.Ns N mN := by
  obtain ⟨o, es, ep, e, r⟩ := h
  exact ⟨o, es, ep, S.keep _ _ e hN, r⟩
theorem St.inst {s : Shared} {x dx C : Addr} {o : Obj} {m : List (Str × Option Value)} (S : St B L s) (hx : (x, It.ob o) ∈ L) (hd : (dx, dn m) ∈ L) (ho : InstOb o C dx) (hne : dx ≠ x) : s.heap.Inst x C fun y => (m.lookup y).join :=
  ⟨o, S.its _ hx, ho.cls, ho.nc, .inr ⟨dx, ho.dict, hne, dn_ns1 (S.its _ hd)⟩⟩
theorem szl' {k : Nat} (h : k ≤ 100) : k ≤ sizeLine := Nat.le_trans h (by decide)
theorem T_ga {x dx C : Addr} {o : Obj} {mN : Str → Option Value} {m : List (Str × Option Value)} {name : Str} {v : Value} {expr : Bool} {Q : Value → Led → Prop} (K : Cls B C mN) (hx : (x, It.ob o) ∈ L) (hd : (dx, dn m) ∈ L) (ho : InstOb o C dx) (hne : dx ≠ x)
    (hv : m.lookup name = some (some v)) (hna : mN name = none) (hB : typeLookup (.type "object") name = pure none) (hh : handedOut v = pure v) (h : Q v L) : T B n (getAttr (.ref x) name expr) L Q := fun A hA s S => by
  obtain ⟨nm, q, N, bs, sn, sub, col, dd, k0, k1, k2, k3, k5, hC, hN, c1, c2⟩ := K.ob
  obtain ⟨hp, g, d, tk, os⟩ := s
  exact load_attr (S.keep _ _ hC c1) (S.ns0 hN c2) K.ga hna hB (S.inst hx hd ho hne) (by rw [hv]; rfl) hh ⟨L, S.tp, h⟩
theorem St.updX {s : Shared} {h' : Heap} {a : Addr} {it it' : It} (S : St B ((a, it) :: L) s) (hs : Heap.ExtBut a s.heap h') (sf : it.soft = true) (hne : L ≠ []) (hi : it'.At h' a) : St B ((a, it') :: L) { s with heap := h' } := by
  have S' := S.ext hs sf hne
  refine ⟨S'.keep, S'.tab, fun p hp => ?_, S.nd, fun p hp => ?_, S'.size, S'.old, S'.gens, S'.os⟩
  · rcases List.mem_cons.mp hp with rfl | hp
    · exact hi
    · exact S'.its p hp
  · rcases List.mem_cons.mp hp with rfl | hp
    · exact S.lo (a, it) (.head _)
    · exact S'.lo p hp
theorem put_lookup {x : Str} {v : Value} {m m' : List (Str × Option Value)} (h : Put x (some v) m m') (nd : (m.map (·.1)).Nodup) : ∀ y, (m'.lookup y).join = if y = x then some v else (m.lookup y).join := by
  induction h with
  | @head o r =>
    intro y
    by_cases e : y = x
    · subst e; simp
    · have : (y == x) = false := by simpa using e
      simp [List.lookup_cons, this, e]
  | @tail p r r' hp ih =>
    intro y
    obtain ⟨z, o⟩ := p
    simp only [List.map_cons, List.nodup_cons] at nd
    have hz : x ∈ r.map (·.1) := by
      clear ih nd
      induction hp with
      | head => simp
      | tail _ ih => simp [ih]
    by_cases e : y = z
    · subst e
      have hne : y ≠ x := fun q => nd.1 (q ▸ hz)
      simp [hne]
    · have : (y == z) = false := by simpa using e
      simp only [List.lookup_cons, this]
      exact ih nd.2 y
theorem T_sa {x dx C : Addr} {o : Obj} {mN : Str → Option Value} {m m' : List (Str × Option Value)} {name : Str} {v : Value} {Q : Unit → Led → Prop} (K : Cls B C mN) (hr : Rem (dx, dn m) L L₁) (hx : (x, It.ob o) ∈ L₁) (ho : InstOb o C dx)
    (hp : Put name (some v) m m') (hna : mN name = none) (hB : typeLookup (.type "object") name = pure none) (hsz : m.length ≤ 100) (h : Q () ((dx, dn m') :: L₁)) : T B n (setAttr (.ref x) name v) L Q := fun A hA s S => by
  obtain ⟨nm, q, N, bs, sn, sub, col, dd, k0, k1, k2, k3, k5, hC, hN, c1, c2⟩ := K.ob
  have S₁ := S.rem hr
  have hd₁ := S₁.its _ (.head _)
  have hnd : (m.map (·.1)).Nodup := by obtain ⟨_, _, ⟨_, q⟩, _⟩ := hd₁; exact q
  have hne : dx ≠ x := fun e => by
    have := S₁.nd
    simp only [List.map_cons, List.nodup_cons] at this
    exact this.1 (e ▸ List.mem_map_of_mem hx)
  have hxC : x ≠ C := fun e => by
    have h1 := S₁.lo _ (.tail _ hx)
    rw [show B.h0.get? x = _ from e ▸ hC] at h1
    cases h1
  have I := S₁.inst (.tail _ hx) (.head _) ho hne
  have hgx : s.heap.get? x = some o := S₁.its _ (.tail _ hx)
  obtain ⟨hp', g, d, tk, os⟩ := s
  refine S₁.up (store_attr (ns := m.map (·.1)) F.store_object (S.keep _ _ hC c1) (S.ns0 hN c2) K.sa hna hB hxC I (fun h' tk' I' hk hsame htk => ?_) (fun y hy => ?_) (szl' (by simpa using hsz)))
  · obtain ⟨o₁, e1, e2, e3, e4, e5⟩ := hsame _ hgx
    have hoo : o₁ = o := by
      cases o; cases o₁
      simp only at e2 e3 e4
      have := e5 dx ho.dict
      have hd := ho.dict
      simp only at this hd
      subst e2 e3 e4
      rw [this, hd]
    subst hoo
    have hext : Heap.ExtBut dx (⟨hp', g, d, tk, os⟩ : Shared).heap h' := fun b ob hb e => by
      by_cases e6 : b = x
      · subst e6
        rw [show ob = o₁ from Option.some.inj (e.symm.trans hgx)]
        exact e1
      · exact hk b ob e6 (fun o₀ d' q1 q2 z => by
          have : o₀ = o₁ := Option.some.inj (q1.symm.trans hgx)
          subst this
          rw [ho.dict] at q2
          injection q2 with q2
          exact hb (z.trans q2.symm)) e
    refine ⟨_, (S₁.updX hext rfl (List.ne_nil_of_mem hx) (dn_of ?_ ?_)).toks (t := tk') (by assumption), h⟩
    · obtain ⟨o2, g2, hc2, hn2, hd2⟩ := I'
      rcases hd2 with ⟨hd2, _⟩ | ⟨d2, hd2, _, hns⟩
      · have : o2 = o₁ := Option.some.inj (g2.symm.trans e1)
        subst this
        rw [ho.dict] at hd2; cases hd2
      · have : o2 = o₁ := Option.some.inj (g2.symm.trans e1)
        subst this
        rw [ho.dict] at hd2
        injection hd2 with hd2
        subst hd2
        rw [show (fun y => (m'.lookup y).join) = fun y => if y = name then some v else (m.lookup y).join from funext (put_lookup hp hnd)]
        exact hns
    · rw [hp.keys]; exact hnd
  · cases e : m.lookup y with
    | none => rw [e] at hy; exact absurd rfl hy
    | some o' => exact List.mem_map_of_mem (f := (·.1)) (lookup_mem2 e)
theorem cal_inst {x dx C f : Addr} {o : Obj} {mN : Str → Option Value} {m : List (Str × Option Value)} {name : Str} {fo : Obj} {y : Option Value} (K : Cls B C mN) (hx : (x, It.ob o) ∈ L) (hd : (dx, dn m) ∈ L) (ho : InstOb o C dx) (hne : dx ≠ x)
    (hf : mN name = some (.ref f)) (hfo : B.h0.get? f = some fo) (hft : ∀ t ∈ B.tabs, f ≠ t.P) (hfc : fo.cls = .type "function") (hB : typeLookup (.type "object") name = pure y) (hsh : (m.lookup name).join = none) : Cal B env L (.ref x) name (.ref f) [.ref x] := fun n e Q h A hA s S => by
  obtain ⟨nm, q, N, bs, sn, sub, col, dd, k0, k1, k2, k3, k5, hC, hN, c1, c2⟩ := K.ob
  obtain ⟨hp, g, d, tk, os⟩ := s
  exact method_of (S.keep _ _ hC c1) (S.ns0 hN c2) K.ga K.gt hf (S.keep _ _ hfo hft) hfc hB (S.inst hx hd ho hne) hsh ⟨L, S, h⟩
theorem T_Attribute {x attr : Str} {p : Pos} {Q : Value → Led → Prop} (hb : attributeBase (.Name x p) attr env (eval (.Name x p) env) = eval (.Name x p) env) (h : T B n (eval (.Name x p) env) L fun o L₁ => T B n (getAttr o attr true) L₁ Q) : T B n (eval (.Attribute (.Name x p) attr pos) env) L Q := by
  show T B n (attributeBase (.Name x p) attr env (eval (.Name x p) env) >>= _) L Q
  rw [hb]
  exact T_bind (T_mono h fun o L₁ h1 => T_bind (T_standAt (T_bind (T_holding (T_mono h1 fun r L₂ h2 => T_bind (T_pure (T_pure h2)))))))
theorem weight_typeCall (C : Addr) (vs : List Value) : (Code.builtin "type.__call__" ⟨.ref C :: vs, []⟩).weight = 1 := by kernel_rfl
theorem units_typeCall (args : Args) : (Code.builtin "type.__call__" args).cUnits = 1 := by kernel_rfl
theorem Rm.typeCall {n : Nat} {A : Around} {C : Addr} {vs : List Value} (h : Rm (n + 1) A) : Rm n (A.under (.builtin "type.__call__" ⟨.ref C :: vs, []⟩)) := by
  refine ⟨h.1, ?_, ?_⟩
  · have := h.2.1
    show A.depth + (Code.builtin "type.__call__" ⟨.ref C :: vs, []⟩).weight + n < _
    rw [weight_typeCall]; omega
  · have := h.2.2
    show A.units + (Code.builtin "type.__call__" ⟨.ref C :: vs, []⟩).cUnits + 8 * n < _
    rw [units_typeCall]; omega
theorem T_new {C fI : Addr} {mN : Str → Option Value} {fo : Obj} {args : List Value} {Q : Value → Led → Prop} (fr : List (Str × Option Value)) (K : Cls B C mN) (hi : mN "__init__" = some (.ref fI)) (hfo : B.h0.get? fI = some fo) (hft : ∀ t ∈ B.tabs, fI ≠ t.P) (hfc : fo.cls = .type "function")
    (hfr : (fr.all fun p => p.2.isNone) = true) (hfd : decide (fr.map (·.1)).Nodup = true)
    (h : ∀ x dx o, InstOb o C dx → dx ≠ x → T B n (call (.ref fI) (.ref x :: args) []) ((x, .ob o) :: (dx, dn fr) :: L) fun r L' => r = .none ∧ Q (.ref x) L') : T B (n + 1) (call (.ref C) args []) L Q := fun A hA s S => by
  obtain ⟨nm, q, N, bs, sn, sub, col, dd, k0, k1, k2, k3, k5, hC, hN, c1, c2⟩ := K.ob
  obtain ⟨hp, g, d, tk, os⟩ := s
  refine wpAny_call_obj_init F.objNew (S.keep _ _ hC c1) (S.ns0 hN c2) hi (S.keep _ _ hfo hft) hfc fun h' x dx M => ?_
  obtain ⟨o, hx, hcls, hnc, hdd⟩ := M.inst
  have hdict := M.dict o hx
  have hne : dx ≠ x ∧ h'.Ns1 dx fun ι => none := by
    rcases hdd with ⟨e, _⟩ | ⟨d2, e, e2, e3⟩
    · rw [hdict] at e; cases e
    · rw [hdict] at e; injection e with e; subst e; exact ⟨e2, e3⟩
  have e0 : (fun y => (fr.lookup y).join) = fun ι => none := funext fun y => by
    cases e : fr.lookup y with
    | none => rfl
    | some o =>
      have := List.all_eq_true.mp hfr _ (lookup_mem2 e)
      simp only [Option.isNone_iff_eq_none] at this
      subst this
      rfl
  have S1 : St B ((dx, dn fr) :: L) ⟨h', g, d, tk, os⟩ := S.addN M.keeps M.newD (dn_of (by rw [e0]; exact hne.2) (of_decide_eq_true hfd))
  have S2 : St B ((x, .ob o) :: (dx, dn fr) :: L) ⟨h', g, d, tk, os⟩ := by
    refine ⟨S1.keep, S1.tab, fun p hp => ?_, ?_, fun p hp => ?_, S1.size, S1.old, S1.gens, S1.os⟩
    · rcases List.mem_cons.mp hp with rfl | hp
      · exact hx
      · exact S1.its p hp
    · rw [List.map_cons]
      refine List.nodup_cons.mpr ⟨fun hm => ?_, S1.nd⟩
      obtain ⟨p, hp, e⟩ := List.mem_map.mp hm
      have e' : p.1 = x := e
      rcases List.mem_cons.mp hp with rfl | hp
      · exact hne.1 e'
      · exact (S.its p hp).present (e' ▸ M.newX)
    · rcases List.mem_cons.mp hp with rfl | hp
      · exact S.old_none M.newX
      · exact S1.lo p hp
  refine wpAny_mono (h x dx o ⟨hcls, hnc, hdict⟩ hne.1 _ hA.typeCall _ S2) (fun r s' ⟨L', S', e, hq⟩ => ⟨e, L', S', hq⟩) fun ι ι z => z
end
section
variable {B : Bg} {n : Nat} {L L' L₁ : Led} {Q : Value → Led → Prop}
noncomputable def keyStr (e : DictEntry) : Bool := match e.key with | .str _ _ => true | _ => false
noncomputable def nsAt (K : Frag) (N : Addr) : Array DictEntry := match K.lookup N with
  | some o => match o.data with | .dict es _ => es | _ => #[]
  | none => #[]
theorem ns_frag (O : Our B) {N : Addr} {o : Obj} {es : Array DictEntry} {ep : Nat} (h : (KK B.w.params).lookup N = some o) (hd : o.data = .dict es ep) (hs : (es.all keyStr) = true) : B.h0.Ns N fun x => nsFind (nsAt (KK B.w.params) N) x := by
  refine ⟨o, es, ep, O.get h, hd, fun e he => ?_, fun x => by unfold nsAt; rw [h]; dsimp only; rw [hd]⟩
  have := Array.all_eq_true'.mp hs e he
  unfold keyStr at this
  split at this
  · exact ⟨_, _, by assumption⟩
  · cases this
noncomputable abbrev mNx (B : Bg) : Str → Option Value := fun x => nsFind (nsAt (KK B.w.params) 152) x
theorem notTab_cls {f : Addr} {fo : Obj} (e : B.h0.get? f = some fo) (hd : ∀ vs, fo.data ≠ .fields vs) : ∀ t ∈ B.tabs, f ≠ t.P := fun t ht z => by
  have := B.tab t ht
  rw [← z, e] at this
  cases this; exact hd _ rfl
theorem cls153 (O : Our B) : Cls B 153 (mNx B) := by
  refine ⟨?_, by kernel_rfl, by kernel_rfl, by kernel_rfl⟩
  refine ⟨_, _, 152, _, _, _, _, _, _, _, _, _, _, O.get (a := 153) rfl, ns_frag O (N := 152) rfl rfl (by kernel_rfl), notTab_cls (O.get (a := 153) rfl) (fun vs z => nomatch z), notTab_cls (O.get (a := 152) rfl) (fun vs z => nomatch z)⟩
theorem mN_init : mNx B "__init__" = some (.ref 129) := by kernel_rfl
theorem mN_read : mNx B "_read_char" = some (.ref 136) := by kernel_rfl
theorem mN_get : mNx B "get_token" = some (.ref 143) := by kernel_rfl
theorem mN_push : mNx B "push_token" = some (.ref 150) := by kernel_rfl
theorem mN_lineno : mNx B "lineno" = none := by kernel_rfl
theorem mN_instream : mNx B "instream" = none := by kernel_rfl
theorem mN_whitespace : mNx B "whitespace" = none := by kernel_rfl
theorem mN_pushback : mNx B "pushback" = none := by kernel_rfl
theorem ob_none1 : typeLookup (.type "object") "lineno" = pure none := by rw [typeLookup_type, builtinLookup_eq_fast]; kernel_rfl
theorem ob_none2 : typeLookup (.type "object") "instream" = pure none := by rw [typeLookup_type, builtinLookup_eq_fast]; kernel_rfl
theorem ob_none3 : typeLookup (.type "object") "whitespace" = pure none := by rw [typeLookup_type, builtinLookup_eq_fast]; kernel_rfl
theorem ob_none4 : typeLookup (.type "object") "pushback" = pure none := by rw [typeLookup_type, builtinLookup_eq_fast]; kernel_rfl
theorem ob_none5 : typeLookup (.type "object") "_read_char" = pure none := by rw [typeLookup_type, builtinLookup_eq_fast]; kernel_rfl
theorem ob_none6 : typeLookup (.type "object") "get_token" = pure none := by rw [typeLookup_type, builtinLookup_eq_fast]; kernel_rfl
theorem ob_none7 : typeLookup (.type "object") "push_token" = pure none := by rw [typeLookup_type, builtinLookup_eq_fast]; kernel_rfl
end
section
variable {B : Bg} {n : Nat} {L L' L₁ : Led} {env : Env} {a b : Int} {t u : Tok} {pos : Pos}
noncomputable def signsOf (x : Str) : List Str := x.cps.toList.map fun c => (⟨#[c]⟩ : Str)
theorem signs_are (x : Str) (vs : List Value) (hl : vs.length = x.cps.size) (h : ∀ (i : Nat) (v : Value), vs[i]? = some v → SignAt x i v) : StrsAre vs (signsOf x) := by
  have key : ∀ (cs : List Nat) (k : Nat) (vs : List Value), vs.length = cs.length → (∀ (i : Nat) (v : Value), vs[i]? = some v → ∃ c u, cs[i]? = some c ∧ v = Value.str ⟨#[c]⟩ u) → StrsAre vs (cs.map fun c => (⟨#[c]⟩ : Str)) := by
    intro cs
    induction cs with
    | nil =>
      intro k vs hl _
      cases vs with
      | nil => exact .nil
      | cons v vs => simp at hl
    | cons c cs ih =>
      intro k vs hl h
      cases vs with
      | nil => simp at hl
      | cons v vs =>
        obtain ⟨c', u, e1, e2⟩ := h 0 v rfl
        simp at e1
        subst e1 e2
        exact .cons _ _ (ih 0 vs (by simpa using hl) fun i w hw => by simpa using h (i + 1) w (by simpa using hw))
  exact key x.cps.toList 0 vs (by simpa using hl) fun i v hv => by
    obtain ⟨c, u, e1, e2⟩ := h i v hv
    exact ⟨c, u, by simpa using e1, e2⟩
theorem T_list_str {x : Str} {Q : Value → Led → Prop} (hne : L ≠ []) (hn : x.cps.size ≤ sizeLine) (h : ∀ l vs, StrsAre vs (signsOf x) → Q (.ref l) ((l, .ls vs) :: L)) : T B n (call (.type "list") [.str x t] []) L Q := fun A hA s S =>
  S.up <| call_list_str hA.1 x t (fun h' tk acc c hk hD hI htk => by
    refine ⟨_, (S.add (it := .ls acc.toList) hk (Nat.le_of_lt (Heap.lt_size hD)) (Nat.le_refl _) ⟨c, by rw [Array.toArray_toList]; exact hD⟩).toks (t := tk) (by assumption), h _ _ (signs_are x _ (by rw [Array.length_toList]; exact hI.1) fun i v hv => hI.2 i v (by rw [← Array.getElem?_toList]; exact hv))⟩) hn
theorem T_vnone {Q : Value → Led → Prop} (h : Q .none L) : T B n (valueOrNone (evalOpt none env)) L Q := T_pure h
theorem T_vsome {e : Expr} {Q : Value → Led → Prop} (h : T B n (eval e env) L Q) : T B n (valueOrNone (evalOpt (some e) env)) L Q := h
theorem T_Slice {lo hi st : Option Expr} {Q : Value → Led → Prop} (h : T B n (valueOrNone (evalOpt lo env)) L fun l L₁ => T B n (valueOrNone (evalOpt hi env)) L₁ fun u L₂ => T B n (valueOrNone (evalOpt st env)) L₂ fun s L₃ => ∀ a, Q (.ref a) ((a, flds "slice" [l, u, s]) :: L₃)) :
    T B n (eval (.Slice lo hi st pos) env) L Q := by
  show T B n (valueOrNone (evalOpt lo env) >>= _) L Q
  exact T_bind (T_mono h fun l L₁ h1 => T_bind (T_holding (T_mono h1 fun u L₂ h2 => T_bind (T_holding (T_mono h2 fun s L₃ h3 => T_newFields (Nat.le_of_ble_eq_true rfl) h3)))))
theorem T_getSlice {l sl : Addr} {vs ws : List Value} {vl vu vt : Value} {lo hi st : Option Int} {value slice : Expr} {Q : Value → Led → Prop} (hm : (l, It.ls vs) ∈ L) (hs : (sl, flds "slice" [vl, vu, vt]) ∈ L) (pl : IsPart vl lo) (pu : IsPart vu hi) (ps : IsPart vt st) (h0 : st ≠ some 0) (hw : slicePick vs.toArray lo hi st = ws.toArray) (hz : vs.length ≤ 16384)
    (hq : ∃ ops, subscripted slice false (.ref l) (.ref sl) = operate ops (getItem (.ref l) (.ref sl))) (h : ∀ r, Q (.ref r) ((r, .ls ws) :: L)) : T B n (subscriptTail value slice (.ref l) (.ref sl)) L Q := by
  obtain ⟨ops, hq⟩ := hq
  refine T_tail (ty_ls hm) slot_list_getitem.lookup hq fun A hA s S => ?_
  have hl := (show s.heap.PlainList l vs.toArray from S.its _ hm).isList
  refine wpAny_getItem_list_slice hl ⟨_, S.its _ hs, rfl, rfl⟩ pl pu ps h0 ?_ (Nat.le_trans (by simpa using hz) (by decide))
  rw [hw]
  exact ⟨_, S.push (o := { cls := .type "list", data := .seq ws.toArray }) (it := .ls ws) rfl fun h' e => ⟨_, e⟩, h _⟩
theorem fm_congr {α β : Type} {f g : α → Option β} : ∀ {l : List α}, (∀ x ∈ l, f x = g x) → l.filterMap f = l.filterMap g
  | [], _ => rfl
  | x :: l, h => by simp only [List.filterMap_cons, h x (.head _), fm_congr fun y hy => h y (.tail _ hy)]
theorem pick_rev (items : List Value) : slicePick items.toArray none none (some (-1)) = items.reverse.toArray := by
  have e1 : sliceRange ((items.length : Int) - 1) (-1) (-1) = (List.range items.length).map fun k => items.length - 1 - k := by
    unfold sliceRange
    have hc : (if (-1 : Int) > 0 then (if (items.length : Int) - 1 < -1 then (-1 - ((items.length : Int) - 1) + -1 - 1) / (-1) else 0) else (if (items.length : Int) - 1 > -1 then ((items.length : Int) - 1 - (-1) - (-1) - 1) / (-(-1)) else 0)) = (items.length : Int) := by
      rw [if_neg (by decide), show (-(-1) : Int) = 1 from rfl, Int.ediv_one]
      split <;> omega
    simp only [hc, Int.toNat_natCast]
    refine List.map_congr_left fun k hk => ?_
    have := List.mem_range.mp hk
    omega
  have e2 : (List.range items.length).filterMap (fun k => items[items.length - 1 - k]?) = items.reverse := by
    have h1 := pick_run items.reverse.toArray 0 items.length
    simp only [Nat.zero_add, List.map_id', List.drop_zero, List.getElem?_toArray] at h1
    rw [List.take_of_length_le (by simp)] at h1
    refine Eq.trans ?_ h1
    refine fm_congr fun k hk => ?_
    rw [List.getElem?_reverse (List.mem_range.mp hk)]
  show ((sliceRange _ _ _).filterMap _).toArray = _
  rw [show sliceRange (sliceBounds none none (some (-1)) items.toArray.size).1 (sliceBounds none none (some (-1)) items.toArray.size).2.1 (sliceBounds none none (some (-1)) items.toArray.size).2.2 = sliceRange ((items.length : Int) - 1) (-1) (-1) from by simp [sliceBounds]]
  rw [e1, List.filterMap_map]
  congr 1
  refine Eq.trans ?_ e2
  exact fm_congr fun k hk => by simp
end
theorem fn_mro : mroOf (.type "function") = pure [.type "function", .type "object"] := by kernel_rfl
theorem lk_fn_sa : typeLookup (.type "function") "__setattr__" = pure (some (.builtin "object.__setattr__")) := by rw [typeLookup_type, builtinLookup_eq_fast]; kernel_rfl
theorem lk_fn_read : typeLookup (.type "function") "read" = pure none := by rw [typeLookup_type, builtinLookup_eq_fast]; kernel_rfl
theorem sub_fn_object : isSubtype (.type "function") (.type "object") = pure true := by rw [isSubtype_type]; kernel_rfl
theorem fn_refuse (self : Value) : refuseLoop self "__setattr__" [.type "function", .type "object"] = pure () := by
  show refuseLoop self "__setattr__" _ = _
  kernel_rfl
section
variable {B : Bg} {n : Nat} {L L' L₁ : Led} {env : Env} {f : Addr} {o : Obj} {cd v : Value} {q : Str}
theorem T_sf {Q : Unit → Led → Prop} (hr : Rem (f, It.fn o cd q) L L₁) (hc : o.cls = .type "function") (hdn : o.dict = none) {fd : FuncData} (hdat : o.data = .func fd)
    (h : ∀ d, Q () ((f, It.fn { o with dict := some d } cd q) :: (d, dn [("read", some v)]) :: L₁)) : T B n (setAttr (.ref f) "read" v) L Q := fun A hA s S => by
  have S₁ := S.rem hr
  have hx : s.heap.get? f = some o := (S₁.its _ (.head _)).1
  obtain ⟨hp, g, d, tk, os⟩ := s
  unfold setAttr callSpecial? specialOf
  have f1 := lk_fn_sa
  have f2 := lk_fn_read
  have f3 := fn_mro
  have f4 := F.store_object.slot.bind (.ref f)
  repeat (any_goals (first | assumption | (with_reducible refine wpAny_loadPart_at hx ?_; rw [hc]) | wp_step))
  refine codeAny_call_builtin F.store_object.slot.plain F.store_object.entry ?_
  have f5 := sub_fn_object
  have ha := F.store_object.args (.ref f) (.str "read" tk) v
  have hpass := F.store_object.passes (.ref f)
  refine wpAny_mono (Q := fun ι s' => s' = { heap := hp, gens := g, drawn := d, toks := tk + 1, os := os }) ?_ (fun ι s' e => ?_) fun ι ι z => z
  · simp only [checkBuiltinCall, F.store_object.kind, F.store_object.split, List.cons_append, List.nil_append]
    refine wpAny_bind ?_
    unfold isInstance
    repeat (any_goals (first | assumption | (with_reducible refine wpAny_loadPart_at hx ?_; rw [hc]) | wp_step))
    rfl
  · subst e
    unfold Builtin.«object.__setattr__»
    rw [show ([Value.ref f] ++ [Value.str (Str.ofString "read") tk, v]) = [Value.ref f, Value.str (Str.ofString "read") tk, v] from rfl]
    iterate 4 (first | rw [refuse_eq] | (with_reducible refine wpAny_loadPart_at hx ?_; rw [hc]) | wp_step)
    refine wpAny_typeOf (T := "function") ⟨_, hx, hc⟩ ?_
    refine wpAny_bind (wpAny_of_eq f3 ?_)
    refine wpAny_of_eq (fn_refuse _) ?_
    refine wpAny_bind (wpAny_pure ?_)
    refine wpAny_bind (wpAny_typeOf (T := "function") ⟨_, hx, hc⟩ ?_)
    refine wpAny_bind (wpAny_of_eq f2 ?_)
    refine wpAny_bind (wpAny_pure ?_)
    have hst : ownStreamTells (.ref f) (.type "function") = pure () := rfl
    have htd : typeHasDict (.type "function") = true := by kernel_rfl
    have hdm : ∀ d', dictMade (.type "function") f d' = pure (some d') := fun d' => by kernel_rfl
    show wpAny _ _ (Builtin.ObjectAttr.storeInOwnDict (Value.ref f) (Value.type "function") (Value.str (Str.ofString "read") tk) (Str.ofString "read") v false) _ _ _
    unfold Builtin.ObjectAttr.storeInOwnDict
    refine wpAny_bind (wpAny_of_eq hst ?_)
    show wpAny _ _ (instanceDict f true >>= _) _ _ _
    unfold instanceDict
    refine wpAny_bind ?_
    refine wpAny_bind (wpAny_loadPart_at hx ?_)
    rw [hc]
    dsimp only
    rw [hdn, htd, hdat]
    show wpAny _ _ (alloc { cls := Value.type "dict", data := Data.dict #[] } >>= fun d => update f (fun o => { cls := o.cls, dict := some d, data := o.data, slots := o.slots }) >>= fun ι => dictMade (Value.type "function") f d) _ _ _
    have hx₁ : (hp.push { cls := .type "dict", data := .dict #[] }).get? f = some o := Heap.get?_push_of_some _ hx
    have hxs : f ≠ hp.objs.size := Nat.ne_of_lt (Heap.lt_size hx)
    refine wpAny_bind (wpAny_alloc' ?_)
    refine wpAny_bind (wpAny_update' hx₁ ?_)
    refine wpAny_of_eq (hdm _) ?_
    show wpAny _ _ (Builtin.ObjectAttr.storeInDict hp.objs.size (Value.str (Str.ofString "read") tk) (Str.ofString "read") v) _ _ _
    unfold Builtin.ObjectAttr.storeInDict Builtin.ObjectAttr.newKeyGuard
    refine wpAny_bind (wpAny_pure ?_)
    have hgd : ((hp.push { cls := .type "dict", data := .dict #[] }).update f fun o => { cls := o.cls, dict := some hp.objs.size, data := o.data, slots := o.slots }).get? hp.objs.size = some { cls := .type "dict", data := .dict #[] } :=
      (Heap.get?_update_ne _ _ _ _ hxs.symm).trans (Heap.get?_push_at rfl rfl)
    have hnd : ((hp.push { cls := .type "dict", data := .dict #[] }).update f fun o => { cls := o.cls, dict := some hp.objs.size, data := o.data, slots := o.slots }).Ns hp.objs.size (fun ι => none) :=
      ⟨_, #[], _, hgd, rfl, fun e he => absurd he (by simp), fun ι => rfl⟩
    refine wpAny_bind (wpAny_nsSet1 (Heap.Ns1.of_empty hnd) fun h' hn' hs => ?_)
    obtain ⟨oD, esD, epD, hoD, hdD, hcD⟩ := hn'.count (Within.cons (Str.ofString "read") v Within.nil)
    refine wpAny_bind (wpAny_lookBehind hoD (by rw [hdD]; exact pastItsLine_dict (Nat.le_trans hcD (by decide))) ?_)
    refine wpAny_pure (wpAny_pure (wpAny_pure ?_))
    have S₂ : St B ((hp.objs.size, It.ob { cls := .type "dict", data := .dict #[] }) :: (f, It.fn o cd q) :: L₁) ⟨hp.push { cls := .type "dict", data := .dict #[] }, g, d, tk + 1, os⟩ :=
      (S₁.push (o := { cls := .type "dict", data := .dict #[] }) (it := It.ob { cls := .type "dict", data := .dict #[] }) rfl fun ι e => e).tp
    have S₃ := S₂.rem (.tail .head)
    have hfu : ((hp.push { cls := .type "dict", data := .dict #[] }).update f fun o => { cls := o.cls, dict := some hp.objs.size, data := o.data, slots := o.slots }).get? f = some { cls := o.cls, dict := some hp.objs.size, data := o.data, slots := o.slots } :=
      Heap.get?_update_self _ hx₁ (by cases o; subst hdat; rfl)
    have hsf : (It.fn o cd q).soft = true := by show (match o.data with | .func _ => true | _ => false) = true; rw [hdat]
    have hcr : hp.CodeRec cd q := (S₁.its _ (.head _)).2.1
    have S₄ := S₃.upd (it' := It.fn { cls := o.cls, dict := some hp.objs.size, data := o.data, slots := o.slots } cd q) (Heap.SameBut.update _ f fun o => { cls := o.cls, dict := some hp.objs.size, data := o.data, slots := o.slots }) hsf ⟨hfu, codeRec_but (S₃.its _ (.head _)).2.1 (S₃.its _ (.head _)).2.2 ((S₃.its _ (.head _)).soft hsf) fun b ob hb e => (Heap.get?_update_ne _ _ _ _ hb).trans e, (S₃.its _ (.head _)).2.2⟩
    have S₅ := S₄.rem (.tail .head)
    have S₆ := S₅.upd (it' := dn [("read", some v)]) hs rfl (dn_of (by
      have e : (fun y => (([((Str.ofString "read"), some v)] : List (Str × Option Value)).lookup y).join) = fun x => if x = Str.ofString "read" then some v else none := funext fun y => by
        by_cases hy : y = Str.ofString "read"
        · subst hy; simp [List.lookup_cons]
        · have : (y == Str.ofString "read") = false := by simpa using hy
          simp [List.lookup_cons, this, hy]
      rw [e]; exact hn') (of_decide_eq_true rfl))
    exact ⟨_, (S₆.rem (.tail .head)).tp, h _⟩
end
open Builtin.ObjectAttr
theorem lk_fn_ga : typeLookup (.type "function") "__getattribute__" = pure (some (.builtin "object.__getattribute__")) := by rw [typeLookup_type, builtinLookup_eq_fast]; kernel_rfl
theorem lk_fn_gt : typeLookup (.type "function") "__getattr__" = pure none := by rw [typeLookup_type, builtinLookup_eq_fast]; kernel_rfl
theorem slot_fn_ga : Slot "function" "__getattribute__" "object.__getattribute__" :=
  .of (owner := "object") (n := "__getattribute__") (by rw [typeLookup_type, builtinLookup_eq_fast]; kernel_rfl) (by decide +kernel) (by decide +kernel) (by decide +kernel)
    (by first | exact .inl (by decide +kernel) | exact .inr (by decide +kernel)) (by rw [isSubtype_type]; kernel_rfl)
theorem entry_oga : entryFor table "object.__getattribute__" = some Builtin.«object.__getattribute__» := entryFor_of_tree (by kernel_rfl)
theorem args_oga (a b : Value) : argsOk "object.__getattribute__" ⟨[a, b], []⟩ := by unfold argsOk; kernel_rfl
section
variable {B : Bg} {n : Nat} {L L' L₁ : Led} {env : Env} {f d : Addr} {o : Obj} {cd v : Value} {q : Str}
theorem cal_fnattr {m : List (Str × Option Value)} (hx : (f, It.fn o cd q) ∈ L) (hd : (d, dn m) ∈ L) (hc : o.cls = .type "function") (hdd : o.dict = some d) {fd : FuncData} (hdat : o.data = .func fd) (hv : (m.lookup (Str.ofString "read")).join = some v) (hh : handedOut v = pure v) :
    Cal B env L (.ref f) "read" v [] := fun n e Q h A hA s S => by
  have hx := (S.its _ hx).1
  have hns := (dn_ns1 (S.its _ hd)).ns
  obtain ⟨hp, g, dr, tk, os⟩ := s
  show wpAny _ _ (getMethod (.ref f) "read" _) _ _ _
  have f1 := lk_fn_ga
  have f2 := lk_fn_read
  have f3 := lk_fn_gt
  have hcan := F.canon_object_ga
  unfold getMethod specialOf
  refine wpAny_bind (wpAny_bind (wpAny_typeOf (T := "function") ⟨_, hx, hc⟩ (wpAny_of_eq f1 ?_)))
  dsimp only
  rw [if_neg (show ¬ ((Manifest.canonical "object.__getattribute__" != "object.__getattribute__") = true) from by rw [hcan]; exact Bool.false_ne_true)]
  refine wpAny_bind (wpAny_bind (wpAny_typeOf (T := "function") ⟨_, hx, hc⟩ (wpAny_of_eq f3 ?_)))
  rw [if_neg (show ¬ ((none : Option Value).isSome = true) from Bool.false_ne_true)]
  refine wpAny_bind (wpAny_bind (wpAny_typeOf (T := "function") ⟨_, hx, hc⟩ (wpAny_of_eq f2 ?_)))
  dsimp only
  refine wpAny_bind ?_
  unfold getAttr getAttrBy
  refine wpAny_bind (wpAny_mkText ?_)
  refine wpAny_holding ?_
  have hT : ∀ t, (⟨hp, g, dr, t, os⟩ : Shared).TypeIs (.ref f) "function" := fun t => ⟨_, hx, hc⟩
  refine wpAny_bind (wpAny_typeOf (hT _) ?_)
  refine wpAny_bind (wpAny_of_eq f1 ?_)
  show wpAny _ _ (getAttrByItsOwn _ _ _ _ _ _) _ _ _
  unfold getAttrByItsOwn
  refine wpAny_bind (wpAny_pure ?_)
  refine wpAny_bind (wpAny_attempt ?_)
  refine wpAny_holding ?_
  show wpAny _ _ (boundAndCalled _ _ _) _ _ _
  unfold boundAndCalled
  refine wpAny_bind (wpAny_of_eq (slot_fn_ga.bind _) ?_)
  refine wpAny_call ?_
  refine codeAny_call_builtin slot_fn_ga.plain entry_oga (slot_fn_ga.check _ _ _ _ _ _ _ _ (hT _) (args_oga _ _) ?_)
  have htn : ∀ t, wpAny (model B.prog B.w) A.in1 (find (.ref f) (.type "function") (Str.ofString "read")) (fun r s' => r = .value v ∧ s' = ⟨hp, g, dr, t, os⟩) (fun ι ι => False) ⟨hp, g, dr, t, os⟩ := fun t => by
    unfold find
    refine wpAny_bind (wpAny_of_eq f2 ?_)
    refine wpAny_bind (wpAny_pure ?_)
    refine wpAny_bind (wpAny_pure ?_)
    show wpAny _ _ (ownThenClass _ _ _ _) _ _ _
    unfold ownThenClass
    refine wpAny_bind ?_
    show wpAny _ _ (Builtin.ObjectAttr.ownDict f >>= fun r => inDict _ r) _ _ _
    unfold Builtin.ObjectAttr.ownDict loadHead
    refine wpAny_bind (wpAny_bind (wpAny_loadPart_at hx ?_))
    rw [hdat]
    show wpAny _ _ (instanceDict f false) _ _ _
    unfold instanceDict
    refine wpAny_bind (wpAny_loadPart_at hx ?_)
    rw [hc]
    dsimp only
    rw [hdd]
    refine wpAny_pure ?_
    show wpAny _ _ (nsGet d _) _ _ _
    refine wpAny_nsGet hns ?_
    rw [hv]
    exact wpAny_bind (wpAny_rule (wpAny_pure ⟨rfl, rfl⟩))
  unfold Builtin.«object.__getattribute__»
  refine wpAny_bind (wpAny_pure ?_)
  refine wpAny_bind (wpAny_pure ?_)
  refine wpAny_bind (wpAny_typeOf (hT _) ?_)
  refine wpAny_bind (wpAny_mono (htn _) (fun r s' e => ?_) fun ι ι z => z.elim)
  obtain ⟨rfl, rfl⟩ := e
  refine wpAny_pure ?_
  show wpAny _ _ (handedOut v) _ _ _
  rw [hh]
  exact wpAny_pure (wpAny_pure ⟨L, S.tp, h⟩)
end
open Builtin.ObjectAttr
theorem Our.noTab {B : Bg} (O : Our B) : ∀ t ∈ B.tabs, (KK B.w.params).lookup t.P = none := by
  rw [O.tabs]
  intro t ht
  simp only [ourTabs, List.mem_cons, List.not_mem_nil, or_false] at ht
  rcases ht with rfl | rfl | rfl | rfl <;> kernel_rfl
theorem St.inK {B : Bg} {L : Led} {s : Shared} (O : Our B) (S : St B L s) : (KK B.w.params).In s.heap := fun a o e => S.keep _ _ (O.get e) fun t ht z => by subst z; rw [O.noTab t ht] at e; cases e
theorem lookIn_dn {m : List (Str × Option Value)} {o : Obj} {name : Str} (h : dnP m o) (hv : (m.lookup name).join = none) : lookIn name o = some none := by
  obtain ⟨⟨es, ep, hd, hs, hu, hn⟩, _⟩ := h
  have h1 := (hn name).trans hv
  unfold nsFind findBy at h1
  have h2 : es.toList.find? (fun e => e.key.isStr name) = none := by
    rw [Array.find?_toList]
    simpa using h1
  unfold lookIn
  rw [hd]
  dsimp only
  rw [h2]
  dsimp only
  have h3 : es.toList.any (·.refKey) = false := by
    rw [List.any_eq_false]
    intro e he
    obtain ⟨n, t, q⟩ := hs e (by simpa using he)
    unfold DictEntry.refKey
    rw [q]; simp
  rw [if_neg (by rw [h3]; exact Bool.false_ne_true)]
theorem slot_ci_next : Slot "callable_iterator" "__next__" "callable_iterator.__next__" :=
  .of (owner := "callable_iterator") (n := "__next__") (by rw [typeLookup_type, builtinLookup_eq_fast]; kernel_rfl) (by decide +kernel) (by decide +kernel) (by decide +kernel)
    (by first | exact .inl (by decide +kernel) | exact .inr (by decide +kernel)) (by rw [isSubtype_type]; kernel_rfl)
theorem slot_ci_iter : Slot "callable_iterator" "__iter__" "callable_iterator.__iter__" :=
  .of (owner := "callable_iterator") (n := "__iter__") (by rw [typeLookup_type, builtinLookup_eq_fast]; kernel_rfl) (by decide +kernel) (by decide +kernel) (by decide +kernel)
    (by first | exact .inl (by decide +kernel) | exact .inr (by decide +kernel)) (by rw [isSubtype_type]; kernel_rfl)
theorem entry_ci_next : entryFor table "callable_iterator.__next__" = some Builtin.«callable_iterator.__next__» := entryFor_of_tree (by kernel_rfl)
theorem entry_ci_iter : entryFor table "callable_iterator.__iter__" = some Builtin.«dict_keyiterator.__iter__» :=
  entryFor_alias (id' := "dict_keyiterator.__iter__") (by kernel_rfl) (by decide +kernel) (by decide +kernel) (by kernel_rfl)
theorem args_ci_next (a : Value) : argsOk "callable_iterator.__next__" ⟨[a], []⟩ := by unfold argsOk; kernel_rfl
theorem args_ci_iter (a : Value) : argsOk "callable_iterator.__iter__" ⟨[a], []⟩ := by unfold argsOk; kernel_rfl
theorem lk_meth_call : typeLookup (.type "method") "__call__" = pure (some (.builtin "method.__call__")) := by rw [typeLookup_type, builtinLookup_eq_fast]; kernel_rfl
theorem kind_iter : builtinKind "iter" = none := by decide +kernel
theorem plain_iter : plainId "iter" = true := by decide +kernel
theorem entry_iter : entryFor table "iter" = some Builtin.«iter» := entryFor_of_tree (by kernel_rfl)
theorem args_iter_2 (a b : Value) : argsOk "iter" ⟨[a, b], []⟩ := by unfold argsOk; kernel_rfl
section
variable {B : Bg} {n : Nat} {L L' L₁ : Led} {env : Env} {x dx f q it : Addr} {o : Obj} {t : Tok}
noncomputable abbrev bmIt (f x : Addr) : It := .ob (methodObj (.ref f) (.ref x))
set_option tactic.hygienic true in
theorem T_bm {m : List (Str × Option Value)} {name : Str} {expr : Bool} {Q : Value → Led → Prop} (O : Our B) (hx : (x, It.ob o) ∈ L) (hd : (dx, dn m) ∈ L) (ho : InstOb o 153 dx)
    (hh : hasDictIn (KK B.w.params) 153 = true) (ha : findIn (KK B.w.params) (.ref 153) name = some (some (.ref f))) (hg : specialIn (KK B.w.params) (.ref f) "__get__" = some (some (.builtin "function.__get__"))) (ht : takesIn (KK B.w.params) (.ref f) = some false) (hc : copiedNames.contains name = false)
    (hga : findIn (KK B.w.params) (.ref 153) "__getattribute__" = some (some (.builtin "object.__getattribute__"))) (hgt : findIn (KK B.w.params) (.ref 153) "__getattr__" = some none) (hfn : typeIn (KK B.w.params) (.ref f) = some (.type "function"))
    (hsh : (m.lookup name).join = none) (h : ∀ q, Q (.ref q) ((q, bmIt f x) :: L)) : T B n (getAttr (.ref x) name expr) L Q := fun A hA s S => by
  obtain ⟨od, hod, hdp, _⟩ := (show ∃ o, s.heap.get? dx = some o ∧ dnP m o ∧ _ from S.its _ hd)
  have I : PySem.W.InstAt s.heap x o 153 (some od) := ⟨S.its _ hx, ho.cls, by
    unfold notCls
    split
    · rename_i c e; exact absurd e (ho.nc c)
    · rfl, by rw [ho.dict]; exact hod⟩
  refine get_bind (S.inK O) I hga (findObj_fn hh ha hg ht hc (lookIn_dn hdp hsh)) hgt ?_
  refine wpAny_call (fn_get (s := { s with toks := s.toks + 1 }) (St.inK O S.tp) hfn ?_)
  refine handed_on rfl ?_
  exact ⟨_, S.tp.push (o := methodObj (.ref f) (.ref x)) (it := bmIt f x) rfl fun h' e => e, h _⟩
theorem Tc_def {fo : Obj} {fd : FuncData} {f : Addr} {body : List Stmt} {args : List Value} {kw : List (Str × Value)} (binds : List (Str × Value)) (more : List Str) (ks : List (Str × NameKind)) (fr : List (Str × Option Value)) {Q : Value → Led → Prop}
    (ho : ∀ s, St B L s → s.heap.get? f = some fo) (hd : fo.data = .func fd) (hc : ∀ s, St B L s → s.heap.CodeRec fd.code fd.qualname) (hbody : fd.body = .stmts body) (hbind : bindArgs fd ⟨args, kw⟩ = pure binds)
    (hcell : (fd.scope.names.all fun x => x.2 != .cell) = true) (hloc : (binds.all fun x => fd.scope.names.lookup x.1 == some .local) = true)
    (hks : (ks.all fun p => fd.scope.names.lookup p.1 == some p.2 && !(p.1 == ("__debug__" : Str)) && !(p.1 == ("__classdict__" : Str))) = true) (hfr : frame0 binds more = fr) (hnd : decide (fr.map (·.1)).Nodup = true) (hcn : (fd.closure.map (·.1)).Nodup)
    (hg : fd.globals = mainGlobals) (hbi : fd.builtins = builtinsNs)
    (hco : fd.scope.isCoroutine = false) (hgen : fd.scope.isGenerator = false) (hk : fd.scope.kind = .function)
    (h : ∀ F env, EnvIs env ks F fd.closure → env.code = fd.code → env.qual = fd.qualname ++ ".<locals>." → T B n (execs body env) ((F, .ns fr) :: L) fun fl L' => Q (retOf fl) L') : Tc B (n + 1) (.call (.ref f) ⟨args, kw⟩) L (RetQ Q) := fun A hA s S => by
  subst hfr
  refine codeAny_call_def hA.room (ho s S) hd S.lim (hc s S) hbody (.of_eq hbind) (fun x hx => by simpa using List.all_eq_true.mp hcell x hx) (fun x hx => by simpa using List.all_eq_true.mp hloc x hx) (fun h₀ hns hkp => ?_) hco hgen hk
  have lt : s.heap.objs.size < h₀.objs.size := hns.lt
  have S₁ : St B ((s.heap.objs.size, .ns (frame0 binds more)) :: L) { s with heap := h₀ } := S.add hkp (Nat.le_of_lt lt) (Nat.le_refl _) ⟨by
    show h₀.Ns _ (fun x => ((frame0 binds more).lookup x).join)
    have : (fun x => ((frame0 binds more).lookup x).join) = fun x => binds.reverse.lookup x := funext fun x => frame0_lookup binds.reverse more x
    rw [this]; exact hns, of_decide_eq_true hnd⟩
  have hks' : ∀ p ∈ ks, fd.scope.names.lookup p.1 = some p.2 ∧ (p.1 == ("__debug__" : Str)) = false ∧ (p.1 == ("__classdict__" : Str)) = false := fun p hp => by
    have := List.all_eq_true.mp hks p hp
    simp only [Bool.and_eq_true, Bool.not_eq_true', beq_iff_eq] at this
    exact ⟨this.1.1, this.1.2, this.2⟩
  have E : EnvIs (callEnv fd s.heap.objs.size f) ks s.heap.objs.size fd.closure := ⟨hk, fun p hp => (hks' p hp).1, fun p hp => (hks' p hp).2, rfl, hg, hbi, rfl, hcn⟩
  refine wpAny_mono (h _ _ E rfl rfl _ hA.deeper _ (S₁.toks (t := s.toks + binds.length) (Nat.le_add_right_of_le S₁.size))) (fun fl s' ⟨L', S', h'⟩ => ?_) fun ι ι x => x.elim
  refine ⟨_, L', rfl, S', retOf fl, ?_, h'⟩
  cases fl <;> rfl
theorem Tc_sdef (O : Our B) (f : Addr) (binds : List (Str × Value)) (more : List Str) (ks : List (Str × NameKind)) (fr : List (Str × Option Value)) {oc : Value} {od : Option Addr} {osl : Array (Option Value)} {fd : FuncData} {body : List Stmt} {args : List Value} {kw : List (Str × Value)} {Q : Value → Led → Prop}
    (hget : (KK B.w.params).lookup f = some ⟨oc, od, .func fd, osl⟩) (hc : codeIn (KK B.w.params) fd.code fd.qualname = true) (hbody : fd.body = .stmts body) (hbind : bindArgs fd ⟨args, kw⟩ = pure binds)
    (hcell : (fd.scope.names.all fun x => x.2 != .cell) = true) (hloc : (binds.all fun x => fd.scope.names.lookup x.1 == some .local) = true)
    (hks : (ks.all fun p => fd.scope.names.lookup p.1 == some p.2 && !(p.1 == ("__debug__" : Str)) && !(p.1 == ("__classdict__" : Str))) = true) (hfr : frame0 binds more = fr) (hnd : decide (fr.map (·.1)).Nodup = true) (hcn : fd.closure = [])
    (hg : fd.globals = mainGlobals) (hbi : fd.builtins = builtinsNs)
    (hco : fd.scope.isCoroutine = false) (hgen : fd.scope.isGenerator = false) (hk : fd.scope.kind = .function)
    (h : ∀ F env, EnvIs env ks F [] → env.code = fd.code → env.qual = fd.qualname ++ ".<locals>." → T B n (execs body env) ((F, .ns fr) :: L) fun fl L' => Q (retOf fl) L') : Tc B (n + 1) (.call (.ref f) ⟨args, kw⟩) L (RetQ Q) := by
  have e := O.get hget
  refine Tc_def binds more ks fr (fun s S => S.keep _ _ e (notTab_fn e rfl)) rfl (fun s S => S.code (codeRec_of B.inK (by rw [O.K]; exact hc))) hbody hbind hcell hloc hks hfr hnd (by rw [hcn]; exact List.nodup_nil) hg hbi hco hgen hk ?_
  rw [hcn]
  exact h
noncomputable abbrev ciIt (q : Addr) (t : Tok) : It := flds "callable_iterator" [.ref q, .str "" t, .bool false]
noncomputable abbrev ciEnd : It := flds "callable_iterator" [.none, .none, .bool true]
theorem T_iter2 {Q : Value → Led → Prop} (hq : (q, bmIt f x) ∈ L) (h : ∀ it, Q (.ref it) ((it, ciIt q t) :: L)) : T B (n + 1) (call (.builtin "iter") [.ref q, .str "" t] []) L Q := by
  refine T_fun kind_iter plain_iter entry_iter (args_iter_2 _ _) fun A hA s S => ?_
  unfold Builtin.«iter»
  have hq' : s.heap.get? q = some (methodObj (.ref f) (.ref x)) := S.its _ hq
  show wpAny _ _ (specialOf (.ref q) "__call__" >>= _) _ _ _
  unfold specialOf
  refine wpAny_bind (wpAny_bind (wpAny_typeOf (T := "method") ⟨_, hq', rfl⟩ (wpAny_of_eq lk_meth_call ?_)))
  refine wpAny_bind (wpAny_rule ?_)
  exact wpAny_bind (wpAny_mono (T_newFields (B := B) (n := n) (Nat.le_of_ble_eq_true rfl) (Q := fun v L' => FQ B (n + 1) Q (.done (.ret v)) L') (fun it => h it) A hA s S) (fun v s' ⟨L', S', h'⟩ => wpAny_pure ⟨L', S', h'⟩) fun ι ι y => y)
theorem T_iter_ci {vs : List Value} {Q : Value → Led → Prop} (hit : (it, flds "callable_iterator" vs) ∈ L) (h : Q (.ref it) L) : T B n (pyIter (.ref it)) L Q := fun A hA s S => by
  have ho : s.heap.get? it = some { cls := .type "callable_iterator", data := .fields vs.toArray } := S.its _ hit
  have hT : s.TypeIs (.ref it) "callable_iterator" := ⟨_, ho, rfl⟩
  refine wpAny_pyIter_slot hT slot_ci_iter (wpAny_call_entry slot_ci_iter hT entry_ci_iter ?_ (args_ci_iter _))
  show wpAny _ _ (ret (.ref it)) _ _ s
  exact wpAny_pure ⟨_, rfl, "callable_iterator", _, hT, slot_ci_next.lookup, ⟨L, S, h⟩⟩
theorem wpAny_stop {α : Type} {M : Model} {A : Around} {E : Value → Shared → Prop} {s : Shared} {Q : α → Shared → Prop} (hh : A.handled = none)
    (h : ∀ h' e, (∀ b o, s.heap.get? b = some o → h'.get? b = some o) → (∃ o, h'.get? e = some o ∧ o.cls = .type "StopIteration") → E (.ref e) { s with heap := h' }) : wpAny M A (Builtin.SmallTypes.stopIteration : Sem α) Q E s := by
  show wpAny _ _ (newExc (.type "StopIteration") [] >>= _) _ _ _
  refine wpAny_bind ?_
  simp only [newExc, newTuple]
  refine wpAny_bind (wpAny_newObj_type ?_ (by size_fits))
  refine wpAny_bind (m := firstArgMember _ _) (wpAny_of_eq (a := Value.none) (by first | rfl | (simp only [firstArgMember]; rfl)) ?_)
  refine wpAny_newObj_type ?_ (by size_fits)
  simp only [raiseNew]
  refine wpAny_bind (wpAny_handled ?_)
  rw [hh]
  refine wpAny_bind (wpAny_pure (wpAny_throw ?_))
  exact h _ _ (fun b o e => Heap.get?_push_of_some _ (Heap.get?_push_of_some _ e)) ⟨_, Heap.get?_push_size _ rfl, rfl⟩
theorem wpAny_next_end {prog : Program} {w : World} {A : Around} {E : Value → Shared → Prop} {s : Shared} {e : Addr} {Q : Option Value → Shared → Prop} (ho : ∃ o, s.heap.get? e = some o ∧ o.cls = .type "StopIteration") (h : Q none s) :
    wpAny (model prog w) A (do if ← isInstance (.ref e) (.type "StopIteration") then pure none else throw (.ref e)) Q E s := by
  refine wpAny_bind (wpAny_isInstance (T := "StopIteration") (b := true) ho isSubtype_stop ?_)
  exact wpAny_pure h
theorem callBorrowed_of {M : Model} {A : Around} {E : Value → Shared → Prop} {s : Shared} {f : Value} {pos : List Value} {Q : Value → Shared → Prop} (h : wpAny M A (call f pos []) Q E s) : wpAny M A (callBorrowed f pos) Q E s := fun Γ p hΓ => by
  have h1 := h Γ p hΓ
  unfold call at h1
  rw [Sem.wp_runValue] at h1
  unfold callBorrowed
  rw [Sem.wp_call]
  refine Eq.mp ?_ h1
  congr 1
  funext r s'
  cases r with
  | error e => simp
  | ok f => cases f <;> simp
theorem T_next_ci {Q : Option Value → Led → Prop} (hr : (it, ciIt q t) ∈ L) (hq : (q, bmIt f x) ∈ L) {fo : Obj} {fd : FuncData} (hfo : B.h0.get? f = some fo) (hfd : fo.data = .func fd)
    (h : Tc B n (.call (.ref f) ⟨[.ref x], []⟩) L (RetQ fun r L' => ∃ L₂ s u, r = .str s u ∧ Rem (it, ciIt q t) L' L₂ ∧ (q, bmIt f x) ∈ L₂ ∧ (s ≠ "" → Q (some r) L') ∧ (s = "" → Q none ((it, ciEnd) :: L₂)))) : T B (n + 1) (pyNext (.ref it)) L Q := fun A hA s S => by
  have ho : s.heap.get? it = some { cls := .type "callable_iterator", data := .fields #[.ref q, .str "" t, .bool false] } := S.its _ hr
  have hq' : s.heap.get? q = some (methodObj (.ref f) (.ref x)) := S.its _ hq
  have hT : s.TypeIs (.ref it) "callable_iterator" := ⟨_, ho, rfl⟩
  have hf' : s.heap.get? f = some fo := S.keep _ _ hfo (notTab_fn hfo hfd)
  unfold pyNext
  refine wpAny_bind (wpAny_attempt (wpAny_callSpecial?_slot (name := Str.ofString "__next__") hT slot_ci_next
    (wpAny_call_entry slot_ci_next hT entry_ci_next ?_ (args_ci_next _))))
  unfold Builtin.«callable_iterator.__next__»
  show wpAny _ _ (field (.ref it) 2 >>= _) _ _ s
  refine wpAny_bind (wpAny_field ho rfl (x := .bool false) rfl ?_)
  rw [if_neg (show ¬ ((Value.bool false == Value.bool true) = true) from Bool.false_ne_true)]
  show wpAny _ _ (field (.ref it) 0 >>= _) _ _ s
  refine wpAny_bind (wpAny_field ho rfl (x := .ref q) rfl ?_)
  refine wpAny_bind (wpAny_attempt ?_)
  have hbor : ∀ {A' : Around} {E' : Value → Shared → Prop} {s' : Shared} {Q' : Bool → Shared → Prop}, s'.heap.get? q = some (methodObj (.ref f) (.ref x)) → s'.heap.get? f = some fo → Q' true s' → wpAny (model B.prog B.w) A' (borrowsExactly (.ref q)) Q' E' s' := fun h1 h2 h3 => by
    unfold borrowsExactly
    refine wpAny_bind (wpAny_load h1 ?_)
    show wpAny _ _ (if (Value.type "method" == Value.type "method") = true then _ else _) _ _ _
    rw [if_pos (by decide +kernel)]
    show wpAny _ _ (load f >>= _) _ _ _
    refine wpAny_bind (wpAny_load h2 ?_)
    rw [hfd]
    exact wpAny_pure h3
  unfold callOutOfASlot
  refine wpAny_bind (hbor hq' hf' ?_)
  rw [if_pos rfl]
  refine callBorrowed_of (wpAny_call (method_call hq' ?_))
  refine codeAny_mono (h A.in1 hA.in1 s S) ?_
  rintro r s' ⟨_, L', rfl, S', v, rfl, L₂, sv, u, rfl, hr2, hne2, h1, h2⟩
  have S₂ := S'.rem hr2
  have ho' : s'.heap.get? it = some { cls := .type "callable_iterator", data := .fields #[.ref q, .str "" t, .bool false] } := S₂.its _ (.head _)
  dsimp only
  refine wpAny_bind (wpAny_field ho' rfl (x := .bool false) rfl ?_)
  rw [if_neg (show ¬ ((Value.bool false == Value.bool true) = true) from Bool.false_ne_true)]
  refine wpAny_bind (wpAny_field ho' rfl (x := .str "" t) rfl ?_)
  refine wpAny_bind (wpAny_holding (wpAny_eqBool_str ?_))
  by_cases he : sv = Str.ofString ""
  · subst he
    rw [if_neg (by simp)]
    refine wpAny_bind (wpAny_rule ?_)
    have hq2 : s'.heap.get? q = some (methodObj (.ref f) (.ref x)) := S₂.its _ (.tail _ hne2)
    have hf2 : s'.heap.get? f = some fo := S'.keep _ _ hfo (notTab_fn hfo hfd)
    refine wpAny_bind ?_
    show wpAny _ _ (field (.ref it) 0 >>= fun old => slotLetsGo "callable_iterator.__next__" old _ >>= fun ι => setField (.ref it) 0 .none >>= fun ι => setField (.ref it) 1 .none >>= fun ι => setField (.ref it) 2 (.bool true)) _ _ _
    refine wpAny_bind (wpAny_field ho' rfl (x := .ref q) rfl ?_)
    unfold slotLetsGo
    refine wpAny_bind (wpAny_bind (hbor hq2 hf2 ?_))
    rw [if_pos rfl]
    refine wpAny_pure ?_
    refine wpAny_bind (wpAny_setField_rec ho' (by simp) fun h1' e1 k1 => ?_)
    refine wpAny_bind (wpAny_setField_rec e1 (by simp) fun h2' e2 k2 => ?_)
    refine wpAny_setField_rec e2 (by simp) fun h3' e3 k3 => ?_
    have S₃ := S₂.upd (it' := ciEnd) ((k1.trans k2).trans k3) rfl e3
    refine wpAny_stop hA.1 fun h4 e k4 ⟨oe, ho4, hc4⟩ => ?_
    have S₄ := S₃.grow2 k4 (List.cons_ne_nil _ _)
    refine wpAny_next_end ⟨oe, ho4, hc4⟩ ?_
    exact ⟨_, S₄, h2 rfl⟩
  · rw [if_pos (by simp; exact fun z => he z.symm)]
    exact wpAny_pure ⟨_, rfl, wpAny_pure ⟨_, S', h1 he⟩⟩
theorem T_next_ciEnd {Q : Option Value → Led → Prop} (hr : (it, ciEnd) ∈ L) (h : Q none L) : T B (n + 1) (pyNext (.ref it)) L Q := fun A hA s S => by
  have ho : s.heap.get? it = some { cls := .type "callable_iterator", data := .fields #[.none, .none, .bool true] } := S.its _ hr
  have hT : s.TypeIs (.ref it) "callable_iterator" := ⟨_, ho, rfl⟩
  unfold pyNext
  refine wpAny_bind (wpAny_attempt (wpAny_callSpecial?_slot (name := Str.ofString "__next__") hT slot_ci_next
    (wpAny_call_entry slot_ci_next hT entry_ci_next ?_ (args_ci_next _))))
  unfold Builtin.«callable_iterator.__next__»
  show wpAny _ _ (field (.ref it) 2 >>= _) _ _ s
  refine wpAny_bind (wpAny_field ho rfl (x := .bool true) rfl ?_)
  rw [if_pos (by decide +kernel)]
  refine wpAny_bind (wpAny_rule ?_)
  refine wpAny_bind ?_
  refine wpAny_stop hA.1 fun h4 e k4 ⟨oe, ho4, hc4⟩ => ?_
  exact wpAny_next_end ⟨oe, ho4, hc4⟩ ⟨_, S.grow2 k4 (List.ne_nil_of_mem hr), h⟩
end
noncomputable def sg (c : Nat) : Str := ⟨#[c]⟩
theorem sg_eq {c : Nat} {s : String} {d : Nat} (h : Str.ofString s = sg d) : (sg c == Str.ofString s) = decide (c = d) := by
  rw [h]
  unfold sg
  by_cases e : c = d
  · subst e; simp
  · have : (⟨#[c]⟩ : Str) ≠ ⟨#[d]⟩ := fun z => e (by injection z with z; simpa using z)
    simp [e, this]
noncomputable def isWs (c : Nat) : Bool := c == 10 || c == 9 || c == 13 || c == 32
theorem ws_in (c : Nat) : Txt.contains (Str.ofString "\n\t\r ") (sg c) = isWs c := by
  rw [show Str.ofString "\n\t\r " = ⟨#[10, 9, 13, 32]⟩ by decide +kernel]
  refine (StrLaws.found_one ⟨#[10, 9, 13, 32]⟩ c).trans ?_
  unfold isWs
  rw [Bool.eq_iff_iff, decide_eq_true_iff]
  simp [or_assoc]
section
variable {B : Bg} {n : Nat} {L L' L₁ : Led} {env : Env} {x y : Str} {t u : Tok} {pos : Pos}
theorem T_addS {Q : Value → Led → Prop} (hz : x.length + y.length ≤ sizeLine) (h : ∀ k, Q (.str (x ++ y) k) L) : T B n (binaryOp .Add (.str x t) (.str y u)) L Q := fun A hA s S => S.up (SB.add (fun t' k hk => ⟨L, S.toks (by assumption), h _⟩) hz)
theorem T_iaddS {Q : Value → Led → Prop} (hz : x.length + y.length ≤ sizeLine) (h : ∀ k, Q (.str (x ++ y) k) L) : T B n (inplaceOp .Add (.str x t) (.str y u)) L Q := fun A hA s S => S.up (SB.iadd (fun t' k hk => ⟨L, S.toks (by assumption), h _⟩) hz)
theorem T_inS {Q : Value → Led → Prop} (h : Q (.bool (Txt.contains x y)) L) : T B n (compareOp .In (.str y u) (.str x t)) L Q := fun A hA s S => SB.contains ⟨L, S, h⟩
theorem T_eqS {Q : Value → Led → Prop} (h : Q (.bool (x == y)) L) : T B n (compareOp .Eq (.str x t) (.str y u)) L Q := fun A hA s S => PyProof.Rows.eq_str ⟨L, S, h⟩
theorem T_neS {Q : Value → Led → Prop} (h : Q (.bool (x != y)) L) : T B n (compareOp .NotEq (.str x t) (.str y u)) L Q := fun A hA s S => PyProof.Rows.ne_str ⟨L, S, h⟩
theorem T_s_AugAttr {o value : Expr} {attr : Str} {tpos : Pos} {op : Operator} {rest : List Stmt} {Q : Flow → Led → Prop}
    (h : T B n (eval o env) L fun ov L₁ => T B n (getAttr ov attr true) L₁ fun old L₂ => T B n (eval value env) L₂ fun v L₃ => T B n (inplaceOp op old v) L₃ fun r L₄ => T B n (setAttr ov attr r) L₄ fun ι L₅ => T B n (execs rest env) L₅ Q) :
    T B n (execs (.AugAssign (.Attribute o attr tpos) op value pos :: rest) env) L Q := by
  refine T_seq ?_
  rw [arm_exec_AugAssign_2]
  refine T_bind (T_standAt (T_bind (T_mono h fun ov L₁ h1 => T_bind (T_holding (T_bind (T_standAt (T_bind (T_mono h1 fun old L₂ h2 => T_bind (T_holding (T_mono h2 fun v L₃ h3 => T_bind (T_standAt (T_operate (T_mono h3 fun r L₄ h4 => ?_)))))))))))))
  exact T_bind (T_standAt (T_bind (T_holding (T_mono h4 fun ι L₅ h5 => T_bind (T_release (T_pure h5))))))
theorem T_gAttr {o : Expr} {attr : Str} {p : Pos} {Q : Value → Led → Prop} (h : T B n (eval (.Attribute o attr p) env) L Q) : T B n (eval (.Attribute o attr p) env) L Q := h
end
section
variable {B : Bg} {n : Nat} {L L' L₁ L₂ : Led} {env : Env} {x y : Str} {t u : Tok} {pos : Pos} {ks : List (Str × NameKind)} {F : Addr} {cl : List (Str × Addr)}
theorem strsAre_rev {vs : List Value} {ss : List Str} (h : StrsAre vs ss) : StrsAre vs.reverse ss.reverse := by
  induction h with
  | nil => exact .nil
  | cons y t _ ih => rw [List.reverse_cons, List.reverse_cons]; exact strsAre_append ih (.cons y t .nil)
theorem gv_netrclex (O : Our B) : Gv B "_netrclex" (.ref 153) := .inl (O.glob (by kernel_rfl))
theorem kp_153 (O : Our B) : Kp B L (.ref 153) := fun n Q h A hA s S => by
  obtain ⟨nm, q, N, bs, sn, sub, col, dd, k0, k1, k2, k3, k5, hC, hN, c1, c2⟩ := (cls153 O).ob
  obtain ⟨hp, g, d, tk, os⟩ := s
  exact wpAny_keeperOf_exc (S.keep _ _ hC c1) ⟨L, S, h _⟩
end
noncomputable def flagNames : List Str := ["OPTIMIZED", "NEWLOCALS", "VARARGS", "VARKEYWORDS", "NESTED", "GENERATOR", "NOFREE", "COROUTINE", "ITERABLE_COROUTINE", "ASYNC_GENERATOR", "0x400", "0x800", "0x1000", "0x2000", "0x4000", "0x8000"]
noncomputable def nameOf (i : Nat) : Str := flagNames.getD i (Str.ofString "")
noncomputable def esOf (o : Option Obj) : Array DictEntry := match o with
  | some ⟨_, _, .dict es _, _⟩ => es
  | _ => #[]
theorem cfn78 {B : Bg} (O : Our B) : ∃ es ep, B.h0.get? 78 = some { cls := .type "dict", data := .dict es ep } ∧ es = esOf ((KK B.w.params).lookup 78) := ⟨_, _, O.get (a := 78) rfl, rfl⟩
noncomputable def hashOkI (e : DictEntry) : Bool := match e.key with | .int k _ => e.hash == hashInt k | _ => false
noncomputable def cfnOk (es : Array DictEntry) : Bool := es.all hashOkI && (List.range 32).all fun i => match findBy Value.isInt es (2 ^ i) with
  | some (.str v _) => Nat.blt i 10 && v == nameOf i
  | none => Nat.ble 10 i
  | _ => false
theorem cfnOk_is {P : Params} : cfnOk (esOf ((KK P).lookup 78)) = true := by kernel_rfl
theorem hex_is : ((List.range 16).all fun i => Nat.blt i 10 || baseText "0x" 16 (2 ^ i) == nameOf i) = true := by kernel_rfl
section
variable {B : Bg} {n : Nat} {L L' L₁ : Led} {env : Env} {t u : Tok}
set_option tactic.hygienic true in
theorem cfn_map (O : Our B) : B.h0.MapOf (intKind B.prog B.w) 78 (fun k => findBy Value.isInt (esOf ((KK B.w.params).lookup 78)) k) := by
  obtain ⟨es, ep, h, rfl⟩ := cfn78 O
  refine ⟨_, _, ep, h, ⟨rfl, rfl, rfl⟩, rfl, fun e he => ?_, fun k => rfl⟩
  have := cfnOk_is (P := B.w.params)
  unfold cfnOk at this
  have h1 := (Bool.and_eq_true_iff.mp this).1
  have h2 := Array.all_eq_true'.mp h1 e he
  unfold hashOkI at h2
  split at h2
  · rename_i k t q
    exact ⟨k, by rw [q]; simp [intKind, Value.isInt], eq_of_beq h2⟩
  · cases h2
theorem notTab78 (O : Our B) : ∀ t ∈ B.tabs, (78 : Addr) ≠ t.P := by
  rw [O.tabs]
  intro t ht
  simp only [ourTabs, List.mem_cons, List.not_mem_nil, or_false] at ht
  rcases ht with rfl | rfl | rfl | rfl <;> decide
theorem St.cfn {s : Shared} (O : Our B) (S : St B L s) : s.heap.MapOf (intKind B.prog B.w) 78 (fun k => findBy Value.isInt (esOf ((KK B.w.params).lookup 78)) k) := by
  obtain ⟨o, es, ep, h, r⟩ := cfn_map O
  exact ⟨o, es, ep, S.keep _ _ h (notTab78 O), r⟩
theorem cal_cfn (O : Our B) : Cal B env L (.ref 78) "get" (.builtin "dict.get") [.ref 78] := fun n e Q h A hA s S => by
  have hD := S.cfn O
  exact getMethod_builtin hD.typeIs PySem.F.plainAttrs_dict PySem.F.slot_dict_get PySem.F.type_dict_get hD.noDict ⟨L, S, h⟩
set_option tactic.hygienic true in
theorem T_cfn (O : Our B) {i : Nat} {a : Int} {Q : Value → Led → Prop} (hi : i < 16) (ha : a = 2 ^ i) (h : ∀ k, Q (.str (nameOf i) k) L) : T B n (call (.builtin "dict.get") [.ref 78, .int a t, .str (baseText "0x" 16 a) u] []) L Q := fun A hA s S => by
  subst ha
  have hD := S.cfn O
  have ok := cfnOk_is (P := B.w.params)
  unfold cfnOk at ok
  have h1 := List.all_eq_true.mp (Bool.and_eq_true_iff.mp ok).2 i (List.mem_range.mpr (by omega))
  have h2 := List.all_eq_true.mp hex_is i (List.mem_range.mpr hi)
  refine call_meetsIn PySem.F.slot_dict_get hD.typeIs PySem.F.entry_dict_get (PySem.F.args_dict_get_3 _ _ _) (meets_dict_get_default (k := (2 ^ i : Int)) (intKind B.prog B.w) 78 (intKind_is B.prog B.w _ t) rfl _) ⟨_, hD, ?_⟩
  show ∃ L', St B L' _ ∧ Q ((findBy Value.isInt (esOf ((KK B.w.params).lookup 78)) (2 ^ i)).getD _) L'
  split at h1
  · rename_i v tk e
    rw [e]
    have := (Bool.and_eq_true_iff.mp h1).2
    have e2 : v = nameOf i := by simpa using this
    subst e2
    exact ⟨L, S.tp, h _⟩
  · rename_i e
    rw [e]
    have hge : ¬ (Nat.blt i 10 = true) := by
      have := Nat.le_of_ble_eq_true h1
      intro z
      have := Nat.le_of_ble_eq_true z
      omega
    have h3 : (baseText "0x" 16 (2 ^ i) == nameOf i) = true := by
      rcases Bool.or_eq_true_iff.mp h2 with q | q
      · exact absurd q hge
      · exact q
    have e2 : baseText "0x" 16 (2 ^ i) = nameOf i := by simpa using h3
    rw [e2]
    exact ⟨L, S.tp, h _⟩
  · cases h1
theorem T_join {x : Str} {l : Addr} {vs : List Value} {ys : List Str} {Q : Value → Led → Prop} (hm : (l, It.ls vs) ∈ L) (hi : StrsAre vs ys) (hs : x.length ≤ 16) (hw : (ys.map (·.length)).sum + ys.length ≤ 1048576) (h : ∀ k, Q (.str (Txt.join x ys) k) L) :
    T B n (call (.builtin "str.join") [.str x t, .ref l] []) L Q := fun A hA s S => by
  have hl := (show s.heap.PlainList l vs.toArray from S.its _ hm).isList
  exact S.up (join_listW hl (by simpa using hi) hs hw fun t' k hk => ⟨L, S.toks (by assumption), h _⟩)
end
noncomputable abbrev Fl := UInt64
noncomputable def flt (a b : Fl) : Bool := Float64.cmp a b == some Ordering.lt
noncomputable def fle (a b : Fl) : Bool := Float64.cmp a b == some Ordering.lt || Float64.cmp a b == some Ordering.eq
noncomputable def feq (a b : Fl) : Bool := Float64.cmp a b == some Ordering.eq
noncomputable def fgt (a b : Fl) : Bool := Float64.cmp a b == some Ordering.gt
noncomputable def fmax (a b : Fl) : Fl := if fgt b a then b else a
noncomputable def fmin (a b : Fl) : Fl := if flt b a then b else a
noncomputable def fmax3 (a b c : Fl) : Fl := fmax (fmax a b) c
noncomputable def fmin3 (a b c : Fl) : Fl := fmin (fmin a b) c
noncomputable def fdivI (a b : Nat) : Fl := Float64.ofFrac false a b
noncomputable def fdiv? (a b : Fl) : Option Fl := if Float64.isZero b then none else some (Float64.div a b)
noncomputable def fmod? (a b : Fl) : Option Fl := if Float64.isZero b then none else some (Float64.divmod a b).2
noncomputable def ftr (a : Fl) : Option Int := match Float64.decode a with | .fin s m e => some (Float64.truncOf s m e) | _ => none
noncomputable def hsvRgb (h s v : Fl) : Option (Fl × Fl × Fl) :=
  if feq s (0 : UInt64) then some (v, v, v) else
  let h6 := Float64.mul h (4618441417868443648 : UInt64)
  (ftr h6).bind fun i => if 1000 ≤ i.natAbs then none else
  let f := Float64.sub h6 (Float64.ofInt i)
  let p := Float64.mul v (Float64.sub (4607182418800017408 : UInt64) s)
  let q := Float64.mul v (Float64.sub (4607182418800017408 : UInt64) (Float64.mul s f))
  let t := Float64.mul v (Float64.sub (4607182418800017408 : UInt64) (Float64.mul s (Float64.sub (4607182418800017408 : UInt64) f)))
  match Int.fmod i 6 with
  | 0 => some (v, t, p)
  | 1 => some (q, v, p)
  | 2 => some (p, v, t)
  | 3 => some (p, q, v)
  | 4 => some (t, p, v)
  | 5 => some (v, p, q)
  | _ => none
noncomputable def hueOf (r g b maxc rangec : Fl) : Option Fl :=
  (fdiv? (Float64.sub maxc r) rangec).bind fun rc => (fdiv? (Float64.sub maxc g) rangec).bind fun gc => (fdiv? (Float64.sub maxc b) rangec).bind fun bc =>
  let h := if feq r maxc then Float64.sub bc gc else if feq g maxc then Float64.sub (Float64.add (4611686018427387904 : UInt64) rc) bc else Float64.sub (Float64.add (4616189618054758400 : UInt64) gc) rc
  (fdiv? h (4618441417868443648 : UInt64)).bind fun h6 => fmod? h6 (4607182418800017408 : UInt64)
noncomputable def rgbHsv (r g b : Fl) : Option (Fl × Fl × Fl) :=
  let maxc := fmax3 r g b
  let minc := fmin3 r g b
  let rangec := Float64.sub maxc minc
  if feq minc maxc then some ((0 : UInt64), (0 : UInt64), maxc) else
  (fdiv? rangec maxc).bind fun s => (hueOf r g b maxc rangec).bind fun h => some (h, s, maxc)
noncomputable def rgbHls (r g b : Fl) : Option (Fl × Fl × Fl) :=
  let maxc := fmax3 r g b
  let minc := fmin3 r g b
  let sumc := Float64.add maxc minc
  let rangec := Float64.sub maxc minc
  (fdiv? sumc (4611686018427387904 : UInt64)).bind fun l =>
  if feq minc maxc then some ((0 : UInt64), l, (0 : UInt64)) else
  (if fle l (4602678819172646912 : UInt64) then fdiv? rangec sumc else fdiv? rangec (Float64.sub (Float64.sub (4611686018427387904 : UInt64) maxc) minc)).bind fun s => (hueOf r g b maxc rangec).bind fun h => some (h, l, s)
noncomputable def toldOk (place share level : Nat) : Bool :=
  match hsvRgb (fdivI place 16) (fdivI share 4) (fdivI level 4) with
  | none => false
  | some (r, g, b) =>
    match rgbHsv r g b, rgbHls r g b with
    | some (h, s, v), some (h', l, s') =>
      let sums := level * (8 - share)
      feq h (fdivI place 16) && feq s (fdivI share 4) && feq v (fdivI level 4) && feq h' (fdivI place 16) && feq l (fdivI sums 32) && feq s' (fdivI (level * share) (min sums (32 - sums))) &&
      ftr (Float64.mul h (Float64.ofInt 16)) == some (place : Int)
    | _, _ => false
noncomputable def toldRow (p : Nat) : Bool := (List.range 4).all fun s => (List.range 4).all fun l => toldOk p (s + 1) (l + 1)
theorem told_0 : toldRow 0 = true := by decide +kernel
theorem told_1 : toldRow 1 = true := by decide +kernel
theorem told_2 : toldRow 2 = true := by decide +kernel
theorem told_3 : toldRow 3 = true := by decide +kernel
theorem told_4 : toldRow 4 = true := by decide +kernel
theorem told_5 : toldRow 5 = true := by decide +kernel
theorem told_6 : toldRow 6 = true := by decide +kernel
theorem told_7 : toldRow 7 = true := by decide +kernel
theorem told_8 : toldRow 8 = true := by decide +kernel
theorem told_9 : toldRow 9 = true := by decide +kernel
theorem told_10 : toldRow 10 = true := by decide +kernel
theorem told_11 : toldRow 11 = true := by decide +kernel
theorem told_12 : toldRow 12 = true := by decide +kernel
theorem told_13 : toldRow 13 = true := by decide +kernel
theorem told_14 : toldRow 14 = true := by decide +kernel
theorem told_15 : toldRow 15 = true := by decide +kernel
theorem told_row : ∀ p < 16, toldRow p = true
  | 0, _ => told_0
  | 1, _ => told_1
  | 2, _ => told_2
  | 3, _ => told_3
  | 4, _ => told_4
  | 5, _ => told_5
  | 6, _ => told_6
  | 7, _ => told_7
  | 8, _ => told_8
  | 9, _ => told_9
  | 10, _ => told_10
  | 11, _ => told_11
  | 12, _ => told_12
  | 13, _ => told_13
  | 14, _ => told_14
  | 15, _ => told_15
  | p + 16, h => absurd h (by omega)
theorem told_ok {p s l : Nat} (hp : p < 16) (hs : 1 ≤ s ∧ s ≤ 4) (hl : 1 ≤ l ∧ l ≤ 4) : toldOk p s l = true := by
  have h1 := List.all_eq_true.mp (told_row p hp) (s - 1) (List.mem_range.mpr (by omega))
  have h2 := List.all_eq_true.mp h1 (l - 1) (List.mem_range.mpr (by omega))
  rwa [show s - 1 + 1 = s from by omega, show l - 1 + 1 = l from by omega] at h2
section
variable {B : Bg} {n : Nat} {L L' L₁ : Led} {env : Env} {t u x : Tok} {a b c : UInt64}
theorem St.tk0 {s : Shared} (S : St B L s) : s.toks ≠ 0 := Nat.ne_of_gt S.size
theorem T_fadd {Q : Value → Led → Prop} (h : ∀ k, k ≠ 0 → Q (.float (Float64.add a b) k) L) : T B n (binaryOp .Add (.float a t) (.float b u)) L Q := fun A hA s S => add_float ⟨L, S.tp, h _ S.tk0⟩
theorem T_fsub {Q : Value → Led → Prop} (h : ∀ k, k ≠ 0 → Q (.float (Float64.sub a b) k) L) : T B n (binaryOp .Sub (.float a t) (.float b u)) L Q := fun A hA s S => sub_float ⟨L, S.tp, h _ S.tk0⟩
theorem T_fmul {Q : Value → Led → Prop} (h : ∀ k, k ≠ 0 → Q (.float (Float64.mul a b) k) L) : T B n (binaryOp .Mult (.float a t) (.float b u)) L Q := fun A hA s S => mul_float ⟨L, S.tp, h _ S.tk0⟩
theorem T_fsubI {i : Int} {Q : Value → Led → Prop} (hi : i.natAbs < 2 ^ 1023) (h : ∀ k, k ≠ 0 → Q (.float (Float64.sub a (Float64.ofInt i)) k) L) : T B n (binaryOp .Sub (.float a t) (.int i u)) L Q := fun A hA s S => sub_fi_fits hi ⟨L, S.tp, h _ S.tk0⟩
theorem T_fmulI {i : Int} {Q : Value → Led → Prop} (hi : i.natAbs < 2 ^ 1023) (h : ∀ k, k ≠ 0 → Q (.float (Float64.mul a (Float64.ofInt i)) k) L) : T B n (binaryOp .Mult (.float a t) (.int i u)) L Q := fun A hA s S => mul_fi_fits hi ⟨L, S.tp, h _ S.tk0⟩
theorem T_fdivF {d : UInt64} {Q : Value → Led → Prop} (hd : fdiv? a b = some d) (h : ∀ k, k ≠ 0 → Q (.float d k) L) : T B n (binaryOp .Div (.float a t) (.float b u)) L Q := fun A hA s S => by
  unfold fdiv? at hd
  by_cases hb : Float64.isZero b = true
  · rw [if_pos hb] at hd; cases hd
  · rw [if_neg hb] at hd; cases hd
    exact truediv_float_or hA.1 (fun z => absurd z hb) fun ι => ⟨L, S.tp, h _ S.tk0⟩
theorem T_fmodF {d : UInt64} {Q : Value → Led → Prop} (hd : fmod? a b = some d) (h : ∀ k, k ≠ 0 → Q (.float d k) L) : T B n (binaryOp .Mod (.float a t) (.float b u)) L Q := fun A hA s S => by
  unfold fmod? at hd
  by_cases hb : Float64.isZero b = true
  · rw [if_pos hb] at hd; cases hd
  · rw [if_neg hb] at hd; cases hd
    exact AutoFloatOps.mod_1 hb ⟨L, S.tp, h _ S.tk0⟩
theorem T_idiv {i j : Nat} {Q : Value → Led → Prop} (hj : j ≠ 0) (hf : Float64.isInf (fdivI i j) = false) (h : ∀ k, k ≠ 0 → Q (.float (fdivI i j) k) L) : T B n (binaryOp .Div (.int i t) (.int j u)) L Q := fun A hA s S => by
  have e : Float64.ofFrac (decide ((i : Int) < 0) != decide ((j : Int) < 0)) (i : Int).natAbs (j : Int).natAbs = fdivI i j := by
    have h1 : ¬ (i : Int) < 0 := by omega
    have h2 : ¬ (j : Int) < 0 := by omega
    unfold fdivI
    rw [decide_eq_false h1, decide_eq_false h2]
    rfl
  refine AutoIntOps.truediv_2 (by simpa using hj) (by rw [e, hf]; exact Bool.false_ne_true) ?_
  rw [e]
  exact ⟨L, S.tp, h _ S.tk0⟩
theorem T_feq {Q : Value → Led → Prop} (h : Q (.bool (feq a b)) L) : T B n (compareOp .Eq (.float a t) (.float b u)) L Q := fun A hA s S => AutoFloatOps.eq_0 ⟨L, S, h⟩
theorem T_fle {Q : Value → Led → Prop} (h : Q (.bool (fle a b)) L) : T B n (compareOp .LtE (.float a t) (.float b u)) L Q := fun A hA s S => AutoFloatOps.le_0 ⟨L, S, h⟩
set_option tactic.hygienic true in
theorem T_ftr {i : Int} {Q : Value → Led → Prop} (hd : ftr a = some i) (h : ∀ k, Q (.int i k) L) : T B n (call (.type "int") [.float a t] []) L Q := fun A hA s S => by
  unfold ftr at hd
  split at hd
  · rename_i sg m e he
    cases hd
    exact call_int_float he ⟨L, S.tp, h _⟩
  · cases hd
noncomputable def at3 (a b c : UInt64) : Nat → UInt64
  | 0 => a
  | 1 => b
  | _ => c
theorem at3_is {i : Nat} {v : Value} (h : (#[Value.float a t, .float b u, .float c x] : Array Value)[i]? = some v) : ∃ k, (k = t ∨ k = u ∨ k = x) ∧ v = .float (at3 a b c i) k := by
  match i with
  | 0 => cases h; exact ⟨_, .inl rfl, rfl⟩
  | 1 => cases h; exact ⟨_, .inr (.inl rfl), rfl⟩
  | 2 => cases h; exact ⟨_, .inr (.inr rfl), rfl⟩
  | i + 3 => simp at h
theorem T_max3 {Q : Value → Led → Prop} (hne : L ≠ []) (ht : t ≠ 0) (hu : u ≠ 0) (hx : x ≠ 0) (h : ∀ k, k ≠ 0 → Q (.float (fmax3 a b c) k) L) : T B n (call (.builtin "max") [.float a t, .float b u, .float c x] []) L Q := fun A hA s S => by
  have hT : (s.heap.push { cls := .type "tuple", data := .seq #[.float a t, .float b u, .float c x] }).IsTuple s.heap.objs.size #[.float a t, .float b u, .float c x] := ⟨_, Heap.get?_push_size _ rfl, rfl, 0, rfl⟩
  refine S.up (call_max_three (wpAny_pyIter_tuple hT ?_))
  have hsz : (s.heap.push { cls := .type "tuple", data := .seq #[.float a t, .float b u, .float c x] }).objs.size = s.heap.objs.size + 1 := Heap.size_push ..
  refine ⟨_, [_, s.heap.objs.size], [_], _, _, _, fun i j => fgt (at3 a b c i) (at3 a b c j), rfl, Walks.tuple (A := A.in1) hA.1 _ s.heap.objs.size (by rw [hsz]; exact Nat.ne_of_lt (Nat.lt_succ_self _)) #[.float a t, .float b u, .float c x],
    ⟨⟨_, Heap.get?_push_size _ rfl, rfl, rfl⟩, hT.push _⟩, fun d hd => ?_, by simp, fun i j vi vj s Q E hi hj hq => ?_, fun v h' tk hP hk => ?_⟩
  · show d < ((s.heap.push _).push _).objs.size
    rw [Heap.size_push, hsz]
    rcases List.mem_cons.mp hd with rfl | hd
    · rw [hsz]; exact Nat.lt_succ_self _
    · rcases List.mem_cons.mp hd with rfl | hd
      · exact Nat.lt_succ_of_lt (Nat.lt_succ_self _)
      · cases hd
  · obtain ⟨ti, _, rfl⟩ := at3_is hi
    obtain ⟨tj, _, rfl⟩ := at3_is hj
    exact AutoFloatOps.gt_0 hq
  · have hold : ∀ d o, s.heap.get? d = some o → h'.get? d = some o := fun d o e => by
      refine hk d o (fun hm => ?_) (Heap.get?_push_of_some _ (Heap.get?_push_of_some _ e))
      rcases List.mem_cons.mp hm with e1 | hm
      · have := Heap.lt_size e; rw [e1, hsz] at this; exact Nat.lt_irrefl _ (Nat.lt_of_succ_lt this)
      · cases hm
    obtain ⟨tv, htv, rfl⟩ := at3_is hP
    have e : at3 a b c (argBest (fun i j => fgt (at3 a b c i) (at3 a b c j)) ((#[Value.float a t, .float b u, .float c x] : Array Value).size - 1)) = fmax3 a b c := by
      show at3 a b c (argBest (fun i j => fgt (at3 a b c i) (at3 a b c j)) 2) = _
      unfold fmax3 fmax
      simp only [argBest]
      show at3 a b c (if fgt (at3 a b c 2) (at3 a b c (if fgt b a = true then 1 else 0)) = true then 2 else if fgt b a = true then 1 else 0) = _
      cases h1 : fgt b a with
      | true =>
        rw [if_pos rfl, if_pos rfl]
        show at3 a b c (if fgt c b = true then 2 else 1) = _
        cases h2 : fgt c b <;> rfl
      | false =>
        rw [if_neg Bool.false_ne_true, if_neg Bool.false_ne_true]
        show at3 a b c (if fgt c a = true then 2 else 0) = _
        cases h2 : fgt c a <;> rfl
    rw [e]
    exact fun htk => ⟨L, (S.grow2 hold hne).toks (by assumption), h _ (by rcases htv with rfl | rfl | rfl <;> assumption)⟩
theorem T_min3 {Q : Value → Led → Prop} (hne : L ≠ []) (ht : t ≠ 0) (hu : u ≠ 0) (hx : x ≠ 0) (h : ∀ k, k ≠ 0 → Q (.float (fmin3 a b c) k) L) : T B n (call (.builtin "min") [.float a t, .float b u, .float c x] []) L Q := fun A hA s S => by
  have hT : (s.heap.push { cls := .type "tuple", data := .seq #[.float a t, .float b u, .float c x] }).IsTuple s.heap.objs.size #[.float a t, .float b u, .float c x] := ⟨_, Heap.get?_push_size _ rfl, rfl, 0, rfl⟩
  refine S.up (call_min_three (wpAny_pyIter_tuple hT ?_))
  have hsz : (s.heap.push { cls := .type "tuple", data := .seq #[.float a t, .float b u, .float c x] }).objs.size = s.heap.objs.size + 1 := Heap.size_push ..
  refine ⟨_, [_, s.heap.objs.size], [_], _, _, _, fun i j => flt (at3 a b c i) (at3 a b c j), rfl, Walks.tuple (A := A.in1) hA.1 _ s.heap.objs.size (by rw [hsz]; exact Nat.ne_of_lt (Nat.lt_succ_self _)) #[.float a t, .float b u, .float c x],
    ⟨⟨_, Heap.get?_push_size _ rfl, rfl, rfl⟩, hT.push _⟩, fun d hd => ?_, by simp, fun i j vi vj s Q E hi hj hq => ?_, fun v h' tk hP hk => ?_⟩
  · show d < ((s.heap.push _).push _).objs.size
    rw [Heap.size_push, hsz]
    rcases List.mem_cons.mp hd with rfl | hd
    · rw [hsz]; exact Nat.lt_succ_self _
    · rcases List.mem_cons.mp hd with rfl | hd
      · exact Nat.lt_succ_of_lt (Nat.lt_succ_self _)
      · cases hd
  · obtain ⟨ti, _, rfl⟩ := at3_is hi
    obtain ⟨tj, _, rfl⟩ := at3_is hj
    exact AutoFloatOps.lt_0 hq
  · have hold : ∀ d o, s.heap.get? d = some o → h'.get? d = some o := fun d o e => by
      refine hk d o (fun hm => ?_) (Heap.get?_push_of_some _ (Heap.get?_push_of_some _ e))
      rcases List.mem_cons.mp hm with e1 | hm
      · have := Heap.lt_size e; rw [e1, hsz] at this; exact Nat.lt_irrefl _ (Nat.lt_of_succ_lt this)
      · cases hm
    obtain ⟨tv, htv, rfl⟩ := at3_is hP
    have e : at3 a b c (argBest (fun i j => flt (at3 a b c i) (at3 a b c j)) ((#[Value.float a t, .float b u, .float c x] : Array Value).size - 1)) = fmin3 a b c := by
      show at3 a b c (argBest (fun i j => flt (at3 a b c i) (at3 a b c j)) 2) = _
      unfold fmin3 fmin
      simp only [argBest]
      show at3 a b c (if flt (at3 a b c 2) (at3 a b c (if flt b a = true then 1 else 0)) = true then 2 else if flt b a = true then 1 else 0) = _
      cases h1 : flt b a with
      | true =>
        rw [if_pos rfl, if_pos rfl]
        show at3 a b c (if flt c b = true then 2 else 1) = _
        cases h2 : flt c b <;> rfl
      | false =>
        rw [if_neg Bool.false_ne_true, if_neg Bool.false_ne_true]
        show at3 a b c (if flt c a = true then 2 else 0) = _
        cases h2 : flt c a <;> rfl
    rw [e]
    exact fun htk => ⟨L, (S.grow2 hold hne).toks (by assumption), h _ (by rcases htv with rfl | rfl | rfl <;> assumption)⟩
theorem T_cfloat {x : UInt64} {k : Nat} {pos : Pos} {Q : Value → Led → Prop} (h : ∀ t, t ≠ 0 → Q (.float x t) L) : T B n (eval (.Constant (.float x) k pos) env) L Q := fun ι ι ι S => by
  show wpAny _ _ (mkFloat x) _ _ _
  exact wpAny_bind (wpAny_fresh (wpAny_pure ⟨L, S.tp, h _ S.tk0⟩))
end
section
variable {B : Bg} {n : Nat} {L L' L₁ : Led} {env : Env} {t u : Tok} {d : Addr} {pos : Pos}
theorem T_alloc {o : Obj} {it : It} {Q : Addr → Led → Prop} (hi : ∀ (h : Heap) a, h.get? a = some o → it.At h a) (hf : o.isFreed = false) (h : ∀ a, Q a ((a, it) :: L)) : T B n (alloc o) L Q := fun A hA s S =>
  wpAny_alloc ⟨_, S.push hf fun h' e => hi _ _ e, h _⟩
theorem T_nsSet {es : List DictEntry} {k : Str} {v : Value} {e : Nat} {Q : Unit → Led → Prop} (hr : Rem (d, .ob (dictOf es e)) L L₁) (hs : ∀ e ∈ es, e.key.isStr k = false) (hk : ∀ e ∈ es, e.refKey = false)
    (h : ∀ t, Q () ((d, .ob (dictOf (es ++ [⟨PyData.keyHash B.w.params k, .str k t, v⟩]) (e + 1))) :: L₁)) : T B n (nsSet d k v) L Q := fun A hA s S => by
  have S₁ := S.rem hr
  have D : s.heap.get? d = some (dictOf es e) := S₁.its _ (.head _)
  have e1 : es.any (·.key.isStr k) = false := by
    rw [List.any_eq_false]
    intro x hx
    rw [hs x hx]; exact Bool.false_ne_true
  have e2 : es.any (·.refKey) = false := by
    rw [List.any_eq_false]
    intro x hx
    rw [hk x hx]; exact Bool.false_ne_true
  have eo : Obj.putName k (PyData.keyHash B.w.params k) (.str k s.toks) v (dictOf es e) = dictOf (es ++ [⟨PyData.keyHash B.w.params k, .str k s.toks, v⟩]) (e + 1) := by
    rw [putName_dict, putL_new hs]
    show dictOf _ (if es.any (·.key.isStr k) then e else e + 1) = _
    rw [e1, if_neg Bool.false_ne_true]
  have c : aRefKeyMayBeTheName k es.toArray = false := by
    rw [aRefKeyMayBeTheName_at, ← Array.any_toList, ← Array.any_toList]
    show (!es.any (·.key.isStr k) && es.any (·.refKey)) = false
    rw [e2, Bool.and_false]
  unfold nsSet
  refine wpAny_bind (wpAny_bind (wpAny_askSetting (wpAny_pure (wpAny_bind (wpAny_mkText (wpAny_bind (wpAny_loadPart D ?_)))))))
  dsimp only
  rw [c]
  refine wpAny_updatePart D ?_
  refine ⟨_, (S₁.upd (it' := .ob (dictOf (es ++ [⟨PyData.keyHash B.w.params k, .str k s.toks, v⟩]) (e + 1))) (Heap.SameBut.update s.heap d (Obj.putName k (PyData.keyHash B.w.params k) (.str k s.toks) v)) rfl ?_).tp, h _⟩
  exact (Heap.get?_update_self _ D (by rw [eo]; rfl)).trans (congrArg some eo)
theorem T_defE {fo : Obj} {fd : FuncData} {f : Addr} {body : List Stmt} {args : List Value} {kw : List (Str × Value)} (more : List Str) (ks : List (Str × NameKind)) {Q : Value → Led → Prop}
    (ho : ∀ s, St B L s → s.heap.get? f = some fo) (hd : fo.data = .func fd) (hc : ∀ s, St B L s → s.heap.CodeRec fd.code fd.qualname) (hbody : fd.body = .stmts body)
    (hcell : (fd.scope.names.all fun x => x.2 != .cell) = true)
    (hks : (ks.all fun p => fd.scope.names.lookup p.1 == some p.2 && !(p.1 == ("__debug__" : Str)) && !(p.1 == ("__classdict__" : Str))) = true) (hcn : (fd.closure.map (·.1)).Nodup)
    (hg : fd.globals = mainGlobals) (hbi : fd.builtins = builtinsNs)
    (hco : fd.scope.isCoroutine = false) (hgen : fd.scope.isGenerator = false) (hk : fd.scope.kind = .function)
    (h : T B n (bindArgs fd ⟨args, kw⟩) L fun binds L₁ => (binds.all fun x => fd.scope.names.lookup x.1 == some .local) = true ∧ decide ((frame0 binds more).map (·.1)).Nodup = true ∧
      ∀ F env, EnvIs env ks F fd.closure → T B n (execs body env) ((F, .ns (frame0 binds more)) :: L₁) fun fl L' => Q (retOf fl) L') : T B (n + 1) (call (.ref f) args kw) L Q := T_call fun A hA s S => by
  refine codeAny_call_function hA.room (ho s S) hd hco hgen hbody (hc s S) ?_
  refine wpAny_mono (h _ hA.in1 s S) (fun binds s₁ ⟨L₁, S₁, hloc, hnd, hb⟩ => ?_) fun ι ι x => x.elim
  refine wpAny_newFunctionEnv (fun x hx => by simpa using List.all_eq_true.mp hcell x hx) (fun x hx => by simpa using List.all_eq_true.mp hloc x hx) (fun h₀ hns hsb => ⟨S₁.lim.fresh _ hsb, codeAny_func ?_⟩) hk
  have hkp : ∀ b o, s₁.heap.get? b = some o → h₀.get? b = some o := fun b o e => hsb.extBut b o (Nat.ne_of_lt (Heap.lt_size e)) (Heap.get?_push_of_some _ e)
  have lt : s₁.heap.objs.size < h₀.objs.size := hns.lt
  have S₂ : St B ((s₁.heap.objs.size, .ns (frame0 binds more)) :: L₁) { s₁ with heap := h₀ } := S₁.add hkp (Nat.le_of_lt lt) (Nat.le_refl _) ⟨by
    show h₀.Ns _ (fun x => ((frame0 binds more).lookup x).join)
    have : (fun x => ((frame0 binds more).lookup x).join) = fun x => binds.reverse.lookup x := funext fun x => frame0_lookup binds.reverse more x
    rw [this]; exact hns, of_decide_eq_true hnd⟩
  have hks' : ∀ p ∈ ks, fd.scope.names.lookup p.1 = some p.2 ∧ (p.1 == ("__debug__" : Str)) = false ∧ (p.1 == ("__classdict__" : Str)) = false := fun p hp => by
    have := List.all_eq_true.mp hks p hp
    simp only [Bool.and_eq_true, Bool.not_eq_true', beq_iff_eq] at this
    exact ⟨this.1.1, this.1.2, this.2⟩
  have E : EnvIs (callEnv fd s₁.heap.objs.size f) ks s₁.heap.objs.size fd.closure := ⟨hk, fun p hp => (hks' p hp).1, fun p hp => (hks' p hp).2, rfl, hg, hbi, rfl, hcn⟩
  refine wpAny_mono (hb _ _ E _ hA.deeper _ (S₂.toks (t := s₁.toks + binds.length) (Nat.le_add_right_of_le S₁.size))) (fun fl s' ⟨L', S', h'⟩ => ?_) fun ι ι x => x.elim
  refine ⟨_, L', rfl, S', retOf fl, ?_, h'⟩
  cases fl <;> rfl
theorem lk_tuple_iter : typeLookup (.type "tuple") "__iter__" = pure (some (.builtin "tuple.__iter__")) := by rw [typeLookup_type, builtinLookup_eq_fast]; kernel_rfl
theorem T_at {pos : Pos} {m : Sem Value} {Q : Value → Led → Prop} (h : T B n m L Q) : T B n (do let v ← m; standAt pos; pure v) L Q := T_bind (T_mono h fun ι ι h1 => T_bind (T_standAt (T_pure h1)))
theorem T_argsKw2 {f : Value} {x : Sem Value} {rest : List (Bool × Sem Value)} {k1 k2 : Str} {m1 m2 : Sem Value} {Q : Args → Led → Prop}
    (h : T B n (spliced ((false, x) :: rest)) L fun ps L₁ => T B n m1 L₁ fun v1 L₂ => T B n m2 L₂ fun v2 L₃ => Q ⟨ps, [(k1, v1), (k2, v2)]⟩ L₃) : T B n (evalArgs f true ((false, x) :: rest) [(some k1, m1), (some k2, m2)]) L Q := by
  unfold evalArgs
  show T B n (spliced ((false, x) :: rest) >>= _) L Q
  refine T_bind (T_mono h fun ps L₁ h1 => T_holding ?_)
  show T B n (evalAll [m1, m2] >>= _) L₁ Q
  have h2 : T B n (evalAll [m1, m2]) L₁ fun vs L₃ => ∃ v1 v2, vs = [v1, v2] ∧ Q ⟨ps, [(k1, v1), (k2, v2)]⟩ L₃ :=
    T_bind (T_mono h1 fun v1 L₂ h2 => T_bind (T_holding (T_bind (T_mono h2 fun v2 L₃ h3 => T_bind (T_holding (T_pure (T_pure (T_pure ⟨v1, v2, rfl, h3⟩))))))))
  refine T_bind (T_mono h2 fun vs L₃ ⟨v1, v2, e, h3⟩ => ?_)
  subst e
  exact T_bind (T_pure (T_pure h3))
theorem T_argsStar {f : Value} {x : Sem Value} {Q : Args → Led → Prop}
    (h : T B n x L fun v L₁ => ∃ tp vs, v = .ref tp ∧ (tp, tup vs) ∈ L₁ ∧ vs.length ≤ 1000 ∧ Q ⟨vs, []⟩ L₁) : T B n (evalArgs f true [(true, x)] []) L Q := by
  unfold evalArgs
  refine T_bind (T_mono h fun v L₁ ⟨tp, vs, e, hm, hz, hq⟩ => T_bind (T_pure ?_))
  subst e
  refine T_holding ?_
  show T B n (evalAll [] >>= _) L₁ Q
  refine T_bind (T_pure ?_)
  refine T_bind (T_mono (Q := fun r L₂ => r = vs ∧ Q ⟨vs, []⟩ L₂) (fun A hA s S => ?_) fun r L₂ ⟨e, hq⟩ => by subst e; exact T_pure hq)
  have ho : s.heap.get? tp = some { cls := .type "tuple", data := .seq vs.toArray } := S.its _ hm
  show wpAny _ _ (notIterableAtAll (.ref tp) >>= _) _ _ s
  refine wpAny_bind ?_
  unfold notIterableAtAll
  show wpAny _ _ (specialOf (.ref tp) "__iter__" >>= _) _ _ s
  unfold specialOf
  refine wpAny_bind (wpAny_bind (wpAny_typeOf (T := "tuple") ⟨_, ho, rfl⟩ (wpAny_of_eq lk_tuple_iter ?_)))
  refine wpAny_pure ?_
  show wpAny _ _ (holding [] (collect (.ref tp))) _ _ s
  refine wpAny_holding (wpAny_collect_seq tp (.inr rfl) ho rfl rfl (fun h' hk => ⟨_, S.grow2 hk (List.ne_nil_of_mem hm), rfl, hq⟩) (szl (by simpa using hz)))
end
section
variable {B : Bg} {n : Nat} {L L' L₁ : Led} {env : Env} {t u : Tok} {d : Addr} {pos : Pos} {es : List DictEntry} {e0 : Nat} {part : Option Value}
theorem T_entries {Q : Array DictEntry → Led → Prop} (hm : (d, .ob (dictOf es e0)) ∈ L) (h : Q es.toArray L) : T B n (dictEntries d part) L Q := fun A hA s S => wpAny_dictEntries (S.its _ hm) rfl ⟨L, S, h⟩
theorem T_epoch {Q : Nat → Led → Prop} (hm : (d, .ob (dictOf es e0)) ∈ L) (h : Q e0 L) : T B n (dictEpoch d part) L Q := fun A hA s S => wpAny_dictEpoch (S.its _ hm) rfl ⟨L, S, h⟩
theorem T_findNone {k : Str} {hs : Int} {Q : Option Nat → Led → Prop} (hm : (d, .ob (dictOf es e0)) ∈ L) (hall : (es.all fun e => isExactStrKey e.key) = true) (hno : (es.all fun e => !e.key.isStr k) = true) (h : Q none L) : T B n (dictFind d (.str k t) hs) L Q := fun A hA s S => by
  refine KTD.kt_dictFind_strs (S.its _ hm) rfl (by rw [← hall]; simp) ?_
  have : es.toArray.findIdx? (fun e => e.key.isStr k) = none := by
    rw [Array.findIdx?_eq_none_iff]
    intro e he
    have := List.all_eq_true.mp hno e (by simpa using he)
    simpa using this
  rw [this]
  exact ⟨L, S, h⟩
theorem T_put1 {k : Str} {hs : Int} {v : Value} {Q : Unit → Led → Prop} (hr : Rem (d, .ob (dictOf es e0)) L L₁) (hall : (es.all fun e => isExactStrKey e.key) = true) (hno : (es.all fun e => !e.key.isStr k) = true) (hz : es.length ≤ 1000)
    (h : Q () ((d, .ob (dictOf (es ++ [⟨hs, .str k t, v⟩]) (e0 + 1))) :: L₁)) : T B n (dictPut d hs (.str k t) v) L Q := by
  unfold dictPut
  refine T_rem hr (T_bind (T_findNone (.head _) hall hno fun A hA s S => ?_))
  have ho : s.heap.get? d = some (dictOf es e0) := S.its _ (.head _)
  refine wpAny_updateDictKeys ho rfl ?_ (szl (by simpa using hz)) (by simp)
  have ho2 : (s.heap.update d (Obj.mapDictKeys (·.push ⟨hs, .str k t, v⟩))).get? d = some (dictOf (es ++ [⟨hs, .str k t, v⟩]) (e0 + 1)) := by
    refine (Heap.get?_update_self _ ho rfl).trans ?_
    unfold Obj.mapDictKeys
    simp
  have S2 := S.upd (it' := .ob (dictOf (es ++ ([{ hash := hs, key := .str k t, val := v }] : List DictEntry)) (e0 + 1))) (Heap.SameBut.update s.heap d (Obj.mapDictKeys (·.push { hash := hs, key := .str k t, val := v }))) rfl (show It.At _ d (.ob _) from ho2)
  exact ⟨_, S2, h⟩
theorem lk_dict_iter : typeLookup (.type "dict") "__iter__" = pure (some (.builtin "dict.__iter__")) := by rw [typeLookup_type, builtinLookup_eq_fast]; kernel_rfl
theorem T_tryC {α : Type} {m : Sem α} {k : Value → Sem α} {Q : α → Led → Prop} (h : T B n m L Q) : T B n (tryCatch m k) L Q := fun A hA s S => wpAny_tryCatch (wpAny_mono (h A hA s S) (fun ι ι x => x) fun ι ι x => x.elim)
theorem T_merge2 {d2 : Addr} {k1 k2 : Str} {h1 h2 : Int} {t1 t2 : Tok} {v1 v2 : Value} {Q : Unit → Led → Prop} (hsm : (d == sysModules) = false) (hne : (k1 == k2) = false)
    (h : ∀ e2, Q () ((d2, .ob (dictOf [⟨h1, .str k1 t1, v1⟩, ⟨h2, .str k2 t2, v2⟩] e2)) :: (d, .ob (dictOf [⟨h1, .str k1 t1, v1⟩, ⟨h2, .str k2 t2, v2⟩] e0)) :: L)) :
    T B n (mergeMapping d2 (.ref d) true) ((d2, .ob (dictOf [] 0)) :: (d, .ob (dictOf [⟨h1, .str k1 t1, v1⟩, ⟨h2, .str k2 t2, v2⟩] e0)) :: L) Q := by
  unfold mergeMapping
  have hT : ∀ s, St B ((d2, .ob (dictOf [] 0)) :: (d, .ob (dictOf [⟨h1, .str k1 t1, v1⟩, ⟨h2, .str k2 t2, v2⟩] e0)) :: L) s → s.TypeIs (.ref d) "dict" := fun s S => ⟨_, S.its (d, _) (.tail _ (.head _)), rfl⟩
  refine T_bind (fun A hA s S => wpAny_isInstance (hT s S) isSubtype_dict_dict ⟨_, S, ?_⟩)
  show T B n (specialOf (.ref d) "__iter__" >>= _) _ Q
  refine T_bind (fun A hA s S => ?_)
  unfold specialOf
  refine wpAny_bind (wpAny_typeOf (hT s S) (wpAny_of_eq lk_dict_iter ⟨_, S, ?_⟩))
  refine T_bind (T_pure ?_)
  rw [show (some (Value.builtin "dict.__iter__") == some (Value.builtin "dict.__iter__")) = true from by simp]
  dsimp only
  rw [hsm, if_neg Bool.false_ne_true]
  refine T_bind (T_entries (.head _) ?_)
  rw [if_pos (by rfl)]
  refine T_bind (T_entries (.tail _ (.head _)) ?_)
  show T B n (forIn (#[DictEntry.mk h1 (.str k1 t1) v1, DictEntry.mk h2 (.str k2 t2) v2] : Array DictEntry) PUnit.unit _ >>= _) _ Q
  refine T_bind ?_
  rw [← Array.forIn_toList]
  refine T_pure ?_
  refine T_bind (T_entries (.tail _ (.head _)) ?_)
  refine T_bind (T_epoch (.tail _ (.head _)) ?_)
  refine T_bind (T_mono (Q := fun ι L' => Q () L') ?_ fun ι ι h => T_pure h)
  show T B n (forIn [0, 1] PUnit.unit _) _ _
  have step : ∀ {es2 : List DictEntry} {e2 : Nat} {hs : Int} {k : Str} {tk : Tok} {v : Value} {Q' : ForInStep PUnit → Led → Prop}, (es2.all fun e => isExactStrKey e.key) = true → (es2.all fun e => !e.key.isStr k) = true → es2.length ≤ 1000 →
      Q' (.yield PUnit.unit) ((d2, .ob (dictOf (es2 ++ [⟨hs, .str k tk, v⟩]) (e2 + 1))) :: (d, .ob (dictOf [⟨h1, .str k1 t1, v1⟩, ⟨h2, .str k2 t2, v2⟩] e0)) :: L) →
      T B n (do
        holding [Value.str k tk, v] (if true = true then do
            let __do_lift ← dictFind d2 (.str k tk) hs
            if __do_lift.isSome = true then do
                rule "dict.merge.duplicate-key"
                let __do_lift ← newExc (Value.type "KeyError") [.str k tk]
                raiseNew __do_lift
                dictPut d2 hs (.str k tk) v
              else dictPut d2 hs (.str k tk) v
          else dictPut d2 hs (.str k tk) v)
        let __do_lift ← dictEpoch d
        if (__do_lift != e0) = true then do
            unsupported "dict.changed-during-merge"
            pure (ForInStep.yield PUnit.unit)
          else pure (ForInStep.yield PUnit.unit)) ((d2, .ob (dictOf es2 e2)) :: (d, .ob (dictOf [⟨h1, .str k1 t1, v1⟩, ⟨h2, .str k2 t2, v2⟩] e0)) :: L) Q' := fun a1 a2 a3 hq => by
    refine T_bind (T_holding ?_)
    rw [if_pos rfl]
    refine T_bind (T_findNone (.head _) a1 a2 ?_)
    rw [if_neg (by simp)]
    refine T_put1 .head a1 a2 a3 ?_
    refine T_bind (T_epoch (.tail _ (.head _)) ?_)
    rw [if_neg (by simp)]
    exact T_pure hq
  rw [List.forIn_cons]
  refine T_bind (T_bind (T_entries (.tail _ (.head _)) ?_))
  refine step rfl rfl (by simp) ?_
  dsimp only
  rw [List.forIn_cons]
  refine T_bind (T_bind (T_entries (.tail _ (.head _)) ?_))
  refine step rfl (by simp [Value.isStr, hne]) (by simp) ?_
  dsimp only
  rw [List.forIn_nil]
  exact T_pure (h _)
noncomputable abbrev d2Of (k1 k2 : Str) (h1 h2 : Int) (t1 t2 : Tok) (v1 v2 : Value) (e : Nat) : It := .ob (dictOf [⟨h1, .str k1 t1, v1⟩, ⟨h2, .str k2 t2, v2⟩] e)
inductive KwOut (d2 : Addr) (v : Value) (L₁ : Led) (P : Str → Value → Str → Value → (Nat → It) → Addr × It → Led → Prop) : Prop
  | mk {d : Addr} {k1 k2 : Str} {h1 h2 : Int} {t1 t2 : Tok} {v1 v2 : Value} {e0 : Nat} {L₂ L₃ : Led} (a : (k1 == k2) = false) (b : v = .ref d) (c : (d == sysModules) = false) (r1 : Rem (d2, .ob (dictOf [] 0)) L₁ L₂) (r2 : Rem (d, d2Of k1 k2 h1 h2 t1 t2 v1 v2 e0) L₂ L₃) (p : P k1 v1 k2 v2 (fun e => d2Of k1 k2 h1 h2 t1 t2 v1 v2 e) (d, d2Of k1 k2 h1 h2 t1 t2 v1 v2 e0) L₃) : KwOut d2 v L₁ P
theorem T_merged {f : Value} {x : Sem Value} {Q : Addr → Led → Prop}
    (h : ∀ d2, T B n x ((d2, .ob (dictOf [] 0)) :: L) fun v L₁ => KwOut d2 v L₁ fun ι ι ι ι g p L₃ => ∀ e2, Q d2 ((d2, g e2) :: p :: L₃)) : T B n (mergedKeywords f [(none, x)]) L Q := by
  unfold mergedKeywords
  refine T_bind (T_alloc (it := .ob (dictOf [] 0)) (fun ι ι e => e) rfl fun d2 => ?_)
  refine T_bind (T_mono (Q := fun ι L' => Q d2 L') (T_holding ?_) fun ι ι h => T_pure h)
  dsimp only
  rw [List.forIn_cons]
  dsimp only
  refine T_bind (T_bind (T_bind (T_pure ?_)))
  refine T_bind (T_mono (h d2) fun v L₁ h => ?_)
  cases h with | @mk d k1 k2 h1 h2 t1 t2 v1 v2 e0 L₂ L₃ hne hv hsm r1 r2 hq =>
  subst hv
  refine T_bind (T_onRaise (T_holding (T_tryC (T_onRaise ?_))))
  refine T_pick (L' := (d2, .ob (dictOf [] 0)) :: (d, d2Of k1 k2 h1 h2 t1 t2 v1 v2 e0) :: L₃) (.cons r1 (.cons r2 .refl)) ?_
  refine T_merge2 hsm hne fun e2 => ?_
  refine T_pure ?_
  dsimp only
  rw [List.forIn_nil]
  refine T_pure ?_
  exact T_pure (hq e2)
theorem T_keysIn {f : Value} {d : Addr} {k1 k2 : Str} {h1 h2 : Int} {t1 t2 : Tok} {v1 v2 : Value} {e : Nat} {Q : List (Str × Value) → Led → Prop} (hm : (d, d2Of k1 k2 h1 h2 t1 t2 v1 v2 e) ∈ L) (h : Q [(k1, v1), (k2, v2)] L) : T B n (keywordsIn f d) L Q := by
  unfold keywordsIn
  refine T_bind (T_entries hm ?_)
  show T B n (forIn (#[DictEntry.mk h1 (.str k1 t1) v1, DictEntry.mk h2 (.str k2 t2) v2] : Array DictEntry) _ _ >>= _) _ Q
  rw [← Array.forIn_toList]
  exact T_pure h
theorem T_argsStarKw {f : Value} {x : Sem Value} {rest : List (Bool × Sem Value)} {m : Sem Value} {Q : Args → Led → Prop}
    (h : T B n (spliced ((false, x) :: rest)) L fun ps L₁ => ∀ d2, T B n m ((d2, .ob (dictOf [] 0)) :: L₁) fun v L₂ => KwOut d2 v L₂ fun k1 v1 k2 v2 ι ι L₃ => Q ⟨ps, [(k1, v1), (k2, v2)]⟩ L₃) : T B n (evalArgs f true ((false, x) :: rest) [(none, m)]) L Q := by
  unfold evalArgs
  show T B n (spliced ((false, x) :: rest) >>= _) L Q
  refine T_bind (T_mono h fun ps L₁ h1 => T_holding ?_)
  show T B n (mergedKeywords f [(none, m)] >>= _) L₁ Q
  refine T_bind (T_merged fun d2 => T_mono (h1 d2) fun v L₂ h => ?_)
  cases h with | mk hne hv hsm r1 r2 hq =>
  refine .mk hne hv hsm r1 r2 fun e2 => ?_
  exact T_bind (T_pure (T_bind (T_holding (T_keysIn (.head _) (T_pick (.skip (.skip .refl)) (T_pure hq))))))
end
section
variable {B : Bg} {n : Nat} {L L' L₁ : Led} {env : Env} {t u : Tok} {d : Addr} {pos : Pos} {ks : List (Str × NameKind)} {F : Addr} {cl : List (Str × Addr)}
theorem T_CallKw2 {id : Str} {p p1 p2 : Pos} {e e1 e2 : Expr} {rest : List Expr} {a b : Str} {Q : Value → Led → Prop} (he : starEach (e :: rest) env = (false, eval e env) :: starEach rest env)
    (h : T B n (eval (.Name id p) env) L fun f L₁ => T B n (spliced (backTo pos (starEach (e :: rest) env))) L₁ fun vs L₂ => T B n (eval e1 env) L₂ fun v1 L₃ => T B n (eval e2 env) L₃ fun v2 L₄ => Kp B L₄ f ∧ T B n (call f vs [(a, v1), (b, v2)]) L₄ Q) :
    T B n (eval (.Call (.Name id p) (e :: rest) [⟨some a, e1, p1⟩, ⟨some b, e2, p2⟩] pos) env) L Q := by
  refine T_CallName (T_mono h fun f L₁ h1 => T_callWith ?_)
  rw [he] at h1 ⊢
  exact T_argsKw2 (T_mono h1 fun vs L₂ h2 => T_at (T_mono h2 fun v1 L₃ h3 => T_at (T_mono h3 fun v2 L₄ h4 => h4)))
theorem T_CallStar1 {id : Str} {p sp : Pos} {e : Expr} {Q : Value → Led → Prop}
    (h : T B n (eval (.Name id p) env) L fun f L₁ => T B n (eval e env) L₁ fun v L₂ => ∃ tp vs, v = .ref tp ∧ (tp, tup vs) ∈ L₂ ∧ vs.length ≤ 1000 ∧ Kp B L₂ f ∧ T B n (call f vs []) L₂ Q) :
    T B n (eval (.Call (.Name id p) [.Starred e sp] [] pos) env) L Q := by
  refine T_CallName (T_mono h fun f L₁ h1 => T_callWith ?_)
  show T B n (evalArgs f true [(true, do let v ← eval e env; standAt pos; pure v)] []) L₁ _
  exact T_argsStar (T_at (T_mono h1 fun v L₂ ⟨tp, vs, e, hm, hz, hk, hc⟩ => ⟨tp, vs, e, hm, hz, hk, hc⟩))
theorem T_CallStarKw {id : Str} {p p1 : Pos} {e x : Expr} {rest : List Expr} {Q : Value → Led → Prop} (he : starEach (e :: rest) env = (false, eval e env) :: starEach rest env)
    (h : T B n (eval (.Name id p) env) L fun f L₁ => T B n (spliced (backTo pos (starEach (e :: rest) env))) L₁ fun vs L₂ => ∀ d2, T B n (eval x env) ((d2, .ob (dictOf [] 0)) :: L₂) fun v L₃ => KwOut d2 v L₃ fun k1 v1 k2 v2 ι ι L₅ => Kp B L₅ f ∧ T B n (call f vs [(k1, v1), (k2, v2)]) L₅ Q) :
    T B n (eval (.Call (.Name id p) (e :: rest) [⟨none, x, p1⟩] pos) env) L Q := by
  refine T_CallName (T_mono h fun f L₁ h1 => T_callWith ?_)
  rw [he] at h1 ⊢
  exact T_argsStarKw (T_mono h1 fun vs L₂ h2 d2 => T_at (h2 d2))
theorem T_isNotNone {a : Addr} {Q : Value → Led → Prop} (h : Q (.bool true) L) : T B n (compareOp .IsNot (.ref a) .none) L Q := fun A hA s S => isnot_none_ne (by intro x; cases x) ⟨L, S, h⟩
noncomputable abbrev dS (B : Bg) (kvs : List (Str × Value)) : It := .pr (fun o => o.IsDictOf (strKind B.prog B.w) kvs)
theorem T_Dict0 {Q : Value → Led → Prop} (h : ∀ d, (d == sysModules) = false → Q (.ref d) ((d, dS B []) :: L)) : T B n (eval (.Dict [] [] pos) env) L Q := by
  rw [arm_eval_Dict]
  refine T_bind (T_standAt ?_)
  show T B n (dictDisplay []) L Q
  unfold dictDisplay
  dsimp only
  rw [List.forIn_nil]
  refine T_bind (T_pure ?_)
  refine T_bind (T_pure ?_)
  show T B n newDict L Q
  refine fun A hA s S => wpAny_newObj_type (Q := fun v s' => ∃ L', St B L' s' ∧ Q v L') ⟨_, S.push (it := dS B []) rfl (fun h' e => ⟨_, e, ⟨#[], 0, ⟨rfl, rfl, rfl⟩, rfl, fun e he => absurd he (by simp), .nil, List.nodup_nil⟩, fun vs z => nomatch z⟩), h _ ?_⟩ (by show sizeOk _; size_fits)
  exact beq_eq_false_iff_ne.mpr (Nat.ne_of_gt (modules_low S.lim))
theorem T_allocM {o : Obj} {it : It} {Q : Addr → Led → Prop} (hi : ∀ (h : Heap) a, h.get? a = some o → it.At h a) (hf : o.isFreed = false) (h : ∀ a, (a == sysModules) = false → Q a ((a, it) :: L)) : T B n (alloc o) L Q := fun A hA s S =>
  wpAny_alloc ⟨_, S.push hf fun h' e => hi _ _ e, h _ (beq_eq_false_iff_ne.mpr (Nat.ne_of_gt (modules_low S.lim)))⟩
theorem T_dset {kvs : List (Str × Value)} {k : Str} {v : Value} {Q : Unit → Led → Prop} (hr : Rem (d, dS B kvs) L L₁) (hz : kvs.length ≤ 1000) (h : Q () ((d, dS B (stored kvs k v)) :: L₁)) : T B n (setItem (.ref d) (.str k t) v) L Q := fun A hA s S => by
  have S₁ := S.rem hr
  obtain ⟨o, ho, hp, hnf⟩ := S₁.its _ (.head _)
  refine wpAny_setItem_pairs (hsz := szl hz) (strKind_is B.prog B.w k t) (Heap.dictOf_iff.mpr ⟨o, ho, hp⟩) fun h' hmm hs => ?_
  obtain ⟨o', ho', hd'⟩ := Heap.dictOf_iff.mp hmm
  exact ⟨_, (S₁.upd (it' := dS B (stored kvs k v)) hs rfl ⟨o', ho', hd', fun vs z => by obtain ⟨es, ep, _, q, _⟩ := hd'; rw [q] at z; cases z⟩).tp, h⟩
theorem T_dget {kvs : List (Str × Value)} {k : Str} {v : Value} {value slice : Expr} {Q : Value → Led → Prop} (hm : (d, dS B kvs) ∈ L) (hv : valueAt kvs k = some v) (hs : subscripted slice false (.ref d) (.str k t) = operate [.ref d, .str k t] (getItem (.ref d) (.str k t)))
    (h : Q v L) : T B n (subscriptTail value slice (.ref d) (.str k t)) L Q := by
  have hD : ∀ s, St B L s → s.heap.DictOf (strKind B.prog B.w) d kvs := fun s S => by
    obtain ⟨o, ho, hp, hnf⟩ := S.its _ hm
    exact Heap.dictOf_iff.mpr ⟨o, ho, hp⟩
  refine T_tail (fun s S => (hD s S).typeIs) slot_dict_getitem.lookup hs fun A hA s S => ?_
  exact wpAny_getItem_of (strKind_is B.prog B.w k t) (hD s S).mapOf hv ⟨L, S.tp, h⟩
theorem St.nb {s : Shared} (S : St B L s) : NoneBooked s.heap := let ⟨mc, a, r⟩ := B.nb; ⟨mc, S.nsOld a, r⟩
set_option tactic.hygienic true in
theorem eqAt_float {A : Around} {s : Shared} {a b : UInt64} {t u : Tok} (ht : t ≠ 0) (hu : u ≠ 0) (hb : NoneBooked s.heap) (h : feq a b = true) : SeqAt.EqAt A s (.float a t) (.float b u) true := fun prog w E Q hq => by
  have hcmp : wpAny (model prog w) A (richCompare .Eq (.float a t) (.float b u) >>= fun r => truthOfDropped r) Q E s := by
    refine wpAny_bind ?_
    show wpAny _ _ (compareOp .Eq (.float a t) (.float b u)) _ _ _
    refine AutoFloatOps.eq_0 ?_
    have e : (Float64.cmp a b == some Ordering.eq) = true := h
    rw [e]
    exact wpAny_truthy_bool hq
  have h0 : (t == 0 || u == 0) = false := by simp [ht, hu]
  unfold eqBool
  show wpAny _ _ (if (Value.float a t == Value.float b u) = true then _ else _) Q E s
  by_cases hab : (Value.float a t == Value.float b u) = true
  · rw [if_pos hab]
    exact wpAny_bind (wpAny_rule (wpAny_pure hq))
  · rw [if_neg hab]
    refine wpAny_bind ?_
    have fin : ∀ c : Bool, wpAny (model prog w) A (if c = true then pure true else (richCompare .Eq (.float a t) (.float b u) >>= fun r => truthOfDropped r)) Q E s := fun c => by
      cases c with
      | true => exact wpAny_pure hq
      | false => exact hcmp
    show wpAny _ A (isSame.created (a == b && !Float64.isNaN a) t u) _ E s
    unfold isSame.created
    refine wpAny_ite ?_
    split
    · rename_i h; rw [h0] at h; exact absurd h Bool.false_ne_true
    refine wpAny_ite ?_
    split
    · exact wpAny_pure (fin true)
    refine wpAny_ite ?_
    split
    · exact wpAny_pure (fin false)
    refine wpAny_bind (wpAny_sharingNotTold_none hb ?_)
    rw [if_neg Bool.false_ne_true]
    refine wpAny_bind (wpAny_sharingNotTold_none hb ?_)
    rw [if_neg Bool.false_ne_true]
    exact wpAny_bind (wpAny_rule (wpAny_bind (wpAny_askSetting (wpAny_pure (fin _)))))
theorem T_eqTupF {p q : Addr} {a1 a2 a3 b1 b2 b3 : UInt64} {t1 t2 t3 u1 u2 u3 : Tok} {Q : Value → Led → Prop} (hp : (p, tup [.float a1 t1, .float a2 t2, .float a3 t3]) ∈ L) (hq : (q, tup [.float b1 u1, .float b2 u2, .float b3 u3]) ∈ L)
    (n1 : t1 ≠ 0) (n2 : t2 ≠ 0) (n3 : t3 ≠ 0) (m1 : u1 ≠ 0) (m2 : u2 ≠ 0) (m3 : u3 ≠ 0) (h1 : feq a1 b1 = true) (h2 : feq a2 b2 = true) (h3 : feq a3 b3 = true) (h : Q (.bool true) L) : T B n (compareOp .Eq (.ref p) (.ref q)) L Q := fun A hA s S => by
  have g1 : s.heap.IsTuple p #[.float a1 t1, .float a2 t2, .float a3 t3] := ⟨_, S.its _ hp, rfl, _, rfl⟩
  have g2 : s.heap.IsTuple q #[.float b1 u1, .float b2 u2, .float b3 u3] := ⟨_, S.its _ hq, rfl, _, rfl⟩
  refine SeqAt.eq_tupleAt (e := fun ι => true) g1 g2 (by have := hA.2.2; omega) (fun j hj1 hj2 => ?_) ⟨L, S, h⟩
  match j with
  | 0 => exact eqAt_float n1 m1 S.nb h1
  | 1 => exact eqAt_float n2 m2 S.nb h2
  | 2 => exact eqAt_float n3 m3 S.nb h3
  | j + 3 => exact absurd hj1 (by simp)
noncomputable abbrev vwIt (d : Addr) : It := .fl "dict_values" [.ref d]
theorem cal_values {kvs : List (Str × Value)} (hm : (d, dS B kvs) ∈ L) : Cal B env L (.ref d) "values" (.builtin "dict.values") [.ref d] := fun n e Q h A hA s S => by
  obtain ⟨o, ho, hp, hnf⟩ := S.its _ hm
  have hD : s.heap.DictOf (strKind B.prog B.w) d kvs := Heap.dictOf_iff.mpr ⟨o, ho, hp⟩
  exact getMethod_builtin hD.typeIs PySem.F.plainAttrs_dict PySem.F.slot_dict_values PySem.F.type_dict_values hD.mapOf.noDict ⟨L, S, h⟩
theorem T_values {kvs : List (Str × Value)} {Q : Value → Led → Prop} (hm : (d, dS B kvs) ∈ L) (hsm : (d == sysModules) = false) (h : ∀ v, Q (.ref v) ((v, vwIt d) :: L)) : T B n (call (.builtin "dict.values") [.ref d] []) L Q := fun A hA s S => by
  obtain ⟨o, ho, hp, hnf⟩ := S.its _ hm
  have hD : s.heap.DictOf (strKind B.prog B.w) d kvs := Heap.dictOf_iff.mpr ⟨o, ho, hp⟩
  refine call_meetsIn PySem.F.slot_dict_values hD.typeIs PySem.F.entry_dict_values (PySem.F.args_dict_values_1 _) (meets_dict_values (strKind B.prog B.w) d hsm) ⟨⟨_, hD⟩, ?_⟩
  exact ⟨_, S.push (o := { cls := .type "dict_values", data := .fields #[.ref d] }) (it := vwIt d) rfl fun h' e => ⟨_, e, rfl, rfl⟩, h _⟩
noncomputable def numIn (kvs : List (Str × Value)) (i : Nat) : Int := match kvs[i]? with
  | some (_, .int a _) => a
  | _ => 0
theorem T_minVals {kvs : List (Str × Value)} {v : Addr} {Q : Value → Led → Prop} (hm : (d, dS B kvs) ∈ L) (hv : (v, vwIt d) ∈ L) (hne : kvs ≠ []) (hint : ∀ p ∈ kvs, ∃ i t, p.2 = Value.int i t)
    (h : ∀ p ∈ kvs, Q p.2 L) : T B n (call (.builtin "min") [.ref v] []) L Q := fun A hA s S => by
  obtain ⟨o, ho, hp, hnf⟩ := S.its _ hm
  obtain ⟨ov, hov, hcv, hdv⟩ := S.its _ hv
  obtain ⟨es, ep, h1, h2, h3, h4, h5⟩ := hp
  have hAt : s.heap.DictAt (strKind B.prog B.w) d kvs ep := ⟨o, es, ho, h1, h2, h3, h4, h5⟩
  have hdlt : d < s.heap.objs.size := Heap.lt_size ho
  refine S.up (call_min_walk (wpAny_pyIter_values ⟨ov, hov, hcv, by simpa using hdv⟩ hAt ?_))
  have W := Walks.dictValues (prog := B.prog) (w := B.w) (knd := strKind B.prog B.w) (A := A.in1) hA.1 s.heap.objs.size d (Nat.ne_of_lt hdlt) kvs ep
  have hnum : ∀ i w, (∃ k, kvs[i]? = some (k, w)) → ∃ t, w = Value.int (numIn kvs i) t := fun i w ⟨k, e⟩ => by
    obtain ⟨a, t, q⟩ := hint _ (List.mem_of_getElem? e)
    dsimp only at q
    subst q
    unfold numIn
    rw [e]
    exact ⟨t, rfl⟩
  refine ⟨_, _, _, _, _, _, _, rfl, W, ⟨⟨_, Heap.get?_push_size _ rfl, rfl, rfl⟩, ?_⟩, fun b hb => ?_, ?_, CmpOf.ints_lt (numIn kvs) hnum, fun w h' tk hP hk => ?_⟩
  · exact hAt.at' fun o e => Heap.get?_push_of_some _ e
  · show b < (s.heap.push _).objs.size
    rw [Heap.size_push]
    rcases List.mem_cons.mp hb with rfl | hb
    · exact Nat.lt_succ_self _
    · rcases List.mem_cons.mp hb with rfl | hb
      · exact Nat.lt_succ_of_lt hdlt
      · cases hb
  · exact List.length_pos_iff.mpr hne
  · obtain ⟨k, e⟩ := hP
    have hold : ∀ b o, s.heap.get? b = some o → h'.get? b = some o := fun b o e => by
      refine hk b o (fun hm => ?_) (Heap.get?_push_of_some _ e)
      rcases List.mem_cons.mp hm with e1 | hm
      · exact absurd (e1 ▸ Heap.lt_size e) (Nat.lt_irrefl _)
      · cases hm
    exact fun htk => ⟨L, (S.grow2 hold (List.ne_nil_of_mem hm)).toks (by assumption), h _ (List.mem_of_getElem? e)⟩
end
noncomputable def fnB : Stmt → List Stmt
  | .FunctionDef _ _ body _ _ _ _ _ _ _ => body
  | _ => []
noncomputable def forB : Stmt → List Stmt
  | .For _ _ body _ _ => body
  | _ => []
noncomputable def nB (b : List Stmt) (i : Nat) : Stmt := (b[i]?).getD (.Pass default)
theorem T_fr {B : Bg} {n : Nat} {L : Led} {env : Env} {Q : Flow → Led → Prop} {b : List Stmt} {k : Nat} {s : Stmt} (e : b.drop k = s :: b.drop (k + 1)) (h : T B n (execs (s :: b.drop (k + 1)) env) L Q) : T B n (execs (b.drop k) env) L Q := by rw [e]; exact h
theorem T_nl {B : Bg} {n : Nat} {L : Led} {env : Env} {Q : Flow → Led → Prop} {b : List Stmt} {k : Nat} (e : b.drop k = []) (h : Q .next L) : T B n (execs (b.drop k) env) L Q := by rw [e]; exact T_nil h
noncomputable abbrev Fs := List (Str × (Value → Prop))
noncomputable def FS (f : Str → Option Value) (ps : Fs) : Prop := ∀ p ∈ ps, ∃ v, f p.1 = some v ∧ p.2 v
noncomputable def IsF (x : UInt64) (v : Value) : Prop := ∃ t, t ≠ 0 ∧ v = .float x t
noncomputable def IsI (i : Int) (v : Value) : Prop := ∃ t, v = .int i t
section
variable {B : Bg} {n : Nat} {L : Led} {env : Env} {ks : List (Str × NameKind)} {F : Addr} {cl : List (Str × Addr)} {ps ps' : Fs} {x : Str} {pos px : Pos} {P P1 P2 P3 R : Value → Prop} {a b e : Expr} {rest : List Stmt} {Q : Flow → Led → Prop} {y z d : UInt64}
theorem FS.up {f : Str → Option Value} {v : Value} (h : FS f ps) (hx : (ps.all fun p => !(p.1 == x)) = true) (hv : P v) : FS (up f x v) ((x, P) :: ps) := by
  intro p hp
  cases hp with
  | head => exact ⟨v, up_eq, hv⟩
  | tail _ hp => exact (h p hp).elim fun w hw => ⟨w, up_ne (by have := List.all_eq_true.mp hx p hp; rwa [Bool.not_eq_true'] at this) hw.1, hw.2⟩
theorem FS.nil {f : Str → Option Value} : FS f [] := fun ι h => nomatch h
theorem FS.cons {f : Str → Option Value} {v : Value} (e : f x = some v) (hv : P v) (h : FS f ps) : FS f ((x, P) :: ps) := by
  intro p hp
  cases hp with
  | head => exact ⟨v, e, hv⟩
  | tail _ hp => exact h p hp
noncomputable def EvH (B : Bg) (n : Nat) (env : Env) (F : Addr) (L : Led) (ps : Fs) (e : Expr) (P : Value → Prop) : Prop :=
  (∀ es, starEach (e :: es) env = (false, eval e env) :: starEach es env) ∧ ∀ (f : Str → Option Value) (Q : Value → Led → Prop), FS f ps → (∀ v, P v → Q v ((F, .nf f) :: L)) → T B n (eval e env) ((F, .nf f) :: L) Q
noncomputable def SH (B : Bg) (n : Nat) (env : Env) (F : Addr) (L : Led) (ps : Fs) (ss : List Stmt) (Q : Flow → Led → Prop) : Prop := ∀ f, FS f ps → T B n (execs ss env) ((F, .nf f) :: L) Q
theorem hN (E : EnvIs env ks F cl) (hk : (x, NameKind.local) ∈ ks) (h : (x, P) ∈ ps) : EvH B n env F L ps (.Name x pos) P :=
  ⟨fun ι => rfl, fun f Q hf k => (hf _ h).elim fun v hv => T_nm E hk (nm_f (.head _) hv.1 (k v hv.2))⟩
theorem hN_is (h : EvH B n env F L ps (.Name x pos) P) : EvH B n env F L ps (.Name x pos) P := h
theorem hMax_is {p : Pos} {c : Expr} (h : EvH B n env F L ps (.Call (.Name "max" p) [a, b, c] [] pos) P) : EvH B n env F L ps (.Call (.Name "max" p) [a, b, c] [] pos) P := h
theorem hMin_is {p : Pos} {c : Expr} (h : EvH B n env F L ps (.Call (.Name "min" p) [a, b, c] [] pos) P) : EvH B n env F L ps (.Call (.Name "min" p) [a, b, c] [] pos) P := h
theorem hInt_is {p : Pos} (h : EvH B n env F L ps (.Call (.Name "int" p) [a] [] pos) P) : EvH B n env F L ps (.Call (.Name "int" p) [a] [] pos) P := h
theorem hC {k : Nat} : EvH B n env F L ps (.Constant (.float y) k pos) (IsF y) := ⟨fun ι => rfl, fun f Q hf h => T_cfloat fun t ht => h _ ⟨t, ht, rfl⟩⟩
theorem hI {i : Int} {k : Nat} : EvH B n env F L ps (.Constant (.int i) k pos) (IsI i) := ⟨fun ι => rfl, fun f Q hf h => T_c_int fun t => h _ ⟨t, rfl⟩⟩
theorem hB {op : Operator} (hs : ∀ es, starEach (.BinOp a op b pos :: es) env = (false, eval (.BinOp a op b pos) env) :: starEach es env) (ha : EvH B n env F L ps a P1) (hb : EvH B n env F L ps b P2) (ho : ∀ v w (L : Led) (Q : Value → Led → Prop), P1 v → P2 w → (∀ r, R r → Q r L) → T B n (binaryOp op v w) L Q) : EvH B n env F L ps (.BinOp a op b pos) R :=
  ⟨hs, fun f Q hf h => T_BinOp (ha.2 f _ hf fun v hv => hb.2 f _ hf fun w hw => ho v w _ _ hv hw h)⟩
theorem hSub (ha : EvH B n env F L ps a (IsF y)) (hb : EvH B n env F L ps b (IsF z)) : EvH B n env F L ps (.BinOp a .Sub b pos) (IsF (Float64.sub y z)) :=
  hB (fun ι => rfl) ha hb fun ι ι ι ι h1 h2 h => h1.elim fun ι h1 => h2.elim fun ι h2 => h1.2 ▸ h2.2 ▸ T_fsub fun k hk => h _ ⟨k, hk, rfl⟩
theorem hAdd (ha : EvH B n env F L ps a (IsF y)) (hb : EvH B n env F L ps b (IsF z)) : EvH B n env F L ps (.BinOp a .Add b pos) (IsF (Float64.add y z)) :=
  hB (fun ι => rfl) ha hb fun ι ι ι ι h1 h2 h => h1.elim fun ι h1 => h2.elim fun ι h2 => h1.2 ▸ h2.2 ▸ T_fadd fun k hk => h _ ⟨k, hk, rfl⟩
theorem hMul (ha : EvH B n env F L ps a (IsF y)) (hb : EvH B n env F L ps b (IsF z)) : EvH B n env F L ps (.BinOp a .Mult b pos) (IsF (Float64.mul y z)) :=
  hB (fun ι => rfl) ha hb fun ι ι ι ι h1 h2 h => h1.elim fun ι h1 => h2.elim fun ι h2 => h1.2 ▸ h2.2 ▸ T_fmul fun k hk => h _ ⟨k, hk, rfl⟩
theorem hDiv (ha : EvH B n env F L ps a (IsF y)) (hb : EvH B n env F L ps b (IsF z)) (hd : fdiv? y z = some d) : EvH B n env F L ps (.BinOp a .Div b pos) (IsF d) :=
  hB (fun ι => rfl) ha hb fun ι ι ι ι h1 h2 h => h1.elim fun ι h1 => h2.elim fun ι h2 => h1.2 ▸ h2.2 ▸ T_fdivF hd fun k hk => h _ ⟨k, hk, rfl⟩
theorem hMod (ha : EvH B n env F L ps a (IsF y)) (hb : EvH B n env F L ps b (IsF z)) (hd : fmod? y z = some d) : EvH B n env F L ps (.BinOp a .Mod b pos) (IsF d) :=
  hB (fun ι => rfl) ha hb fun ι ι ι ι h1 h2 h => h1.elim fun ι h1 => h2.elim fun ι h2 => h1.2 ▸ h2.2 ▸ T_fmodF hd fun k hk => h _ ⟨k, hk, rfl⟩
theorem hSubI {i : Int} (hi : decide (i.natAbs < 1000) = true) (ha : EvH B n env F L ps a (IsF y)) (hb : EvH B n env F L ps b (IsI i)) : EvH B n env F L ps (.BinOp a .Sub b pos) (IsF (Float64.sub y (Float64.ofInt i))) :=
  hB (fun ι => rfl) ha hb fun ι ι ι ι h1 h2 h => h1.elim fun ι h1 => h2.elim fun ι h2 => h1.2 ▸ h2 ▸ T_fsubI (Nat.lt_of_lt_of_le (of_decide_eq_true hi) (Nat.le_trans (show 1000 ≤ 2 ^ 10 by decide) (Nat.pow_le_pow_right (by decide) (show 10 ≤ 1023 by decide)))) fun k hk => h _ ⟨k, hk, rfl⟩
theorem hModI {i j : Int} (ha : EvH B n env F L ps a (IsI i)) (hb : EvH B n env F L ps b (IsI j)) (hj : decide (j ≠ 0) = true) : EvH B n env F L ps (.BinOp a .Mod b pos) (IsI (i.fmod j)) :=
  hB (fun ι => rfl) ha hb fun ι ι ι ι h1 h2 h => h1.elim fun ι h1 => h2.elim fun ι h2 => h1 ▸ h2 ▸ T_fmod (of_decide_eq_true hj) fun k => h _ ⟨k, rfl⟩
theorem hInt (O : Our B) {p : Pos} {i : Int} (E : EnvIs env ks F cl) (hk : (("int" : Str), NameKind.globalImplicit) ∈ ks) (ha : EvH B n env F L ps a (IsF y)) (hd : ftr y = some i) : EvH B n env F L ps (.Call (.Name "int" p) [a] [] pos) (IsI i) :=
  ⟨fun ι => rfl, fun f Q hf h => T_Call1 (ha.1 _) (T_nm E hk (nm_glob (gw_int O) (T_items_cons (ha.1 _) (ha.2 f _ hf fun v hv => hv.elim fun t ht => T_items_nil ⟨kp_ty, ht.2 ▸ T_ftr hd fun k => h _ ⟨k, rfl⟩⟩))))⟩
theorem hMax (O : Our B) {p : Pos} {c : Expr} {w : UInt64} (E : EnvIs env ks F cl) (hk : (("max" : Str), NameKind.globalImplicit) ∈ ks) (ha : EvH B n env F L ps a (IsF y)) (hb : EvH B n env F L ps b (IsF z)) (hc : EvH B n env F L ps c (IsF w)) : EvH B n env F L ps (.Call (.Name "max" p) [a, b, c] [] pos) (IsF (fmax3 y z w)) :=
  ⟨fun ι => rfl, fun f Q hf h => T_Call1 (ha.1 _) (T_nm E hk (nm_glob (gw_max O) (T_items_cons (ha.1 _) (ha.2 f _ hf fun v hv => T_items_cons (hb.1 _) (hb.2 f _ hf fun v2 hv2 => T_items_cons (hc.1 _) (hc.2 f _ hf fun v3 hv3 => T_items_nil ⟨kp_blt, hv.elim fun t ht => hv2.elim fun t2 ht2 => hv3.elim fun t3 ht3 => ht.2 ▸ ht2.2 ▸ ht3.2 ▸ T_max3 (List.cons_ne_nil _ _) ht.1 ht2.1 ht3.1 fun k hk => h _ ⟨k, hk, rfl⟩⟩))))))⟩
theorem hMin (O : Our B) {p : Pos} {c : Expr} {w : UInt64} (E : EnvIs env ks F cl) (hk : (("min" : Str), NameKind.globalImplicit) ∈ ks) (ha : EvH B n env F L ps a (IsF y)) (hb : EvH B n env F L ps b (IsF z)) (hc : EvH B n env F L ps c (IsF w)) : EvH B n env F L ps (.Call (.Name "min" p) [a, b, c] [] pos) (IsF (fmin3 y z w)) :=
  ⟨fun ι => rfl, fun f Q hf h => T_Call1 (ha.1 _) (T_nm E hk (nm_glob (gw_min O) (T_items_cons (ha.1 _) (ha.2 f _ hf fun v hv => T_items_cons (hb.1 _) (hb.2 f _ hf fun v2 hv2 => T_items_cons (hc.1 _) (hc.2 f _ hf fun v3 hv3 => T_items_nil ⟨kp_blt, hv.elim fun t ht => hv2.elim fun t2 ht2 => hv3.elim fun t3 ht3 => ht.2 ▸ ht2.2 ▸ ht3.2 ▸ T_min3 (List.cons_ne_nil _ _) ht.1 ht2.1 ht3.1 fun k hk => h _ ⟨k, hk, rfl⟩⟩))))))⟩
noncomputable def TsH (B : Bg) (n : Nat) (env : Env) (F : Addr) (L : Led) (ps : Fs) (e : Expr) (r : Bool) : Prop := ∀ (f : Str → Option Value) (Q : Bool → Led → Prop) (wh : Sem Value), FS f ps → Q r ((F, .nf f) :: L) → T B n (isTrue e env wh) ((F, .nf f) :: L) Q
theorem hEqF (hm : behindInMarks .Eq b = false) (ha : EvH B n env F L ps a (IsF y)) (hb : EvH B n env F L ps b (IsF z)) : TsH B n env F L ps (.Compare a [.Eq] [b] pos) (feq y z) :=
  fun f Q wh hf h => T_t_Compare hm (ha.2 f _ hf fun v hv => hb.2 f _ hf fun w hw => hv.elim fun ι h1 => hw.elim fun ι h2 => h1.2 ▸ h2.2 ▸ T_feq (T_t_bool h))
theorem hLeF (hm : behindInMarks .LtE b = false) (ha : EvH B n env F L ps a (IsF y)) (hb : EvH B n env F L ps b (IsF z)) : TsH B n env F L ps (.Compare a [.LtE] [b] pos) (fle y z) :=
  fun f Q wh hf h => T_t_Compare hm (ha.2 f _ hf fun v hv => hb.2 f _ hf fun w hw => hv.elim fun ι h1 => hw.elim fun ι h2 => h1.2 ▸ h2.2 ▸ T_fle (T_t_bool h))
theorem hEqI {i j : Int} (hm : behindInMarks .Eq b = false) (ha : EvH B n env F L ps a (IsI i)) (hb : EvH B n env F L ps b (IsI j)) : TsH B n env F L ps (.Compare a [.Eq] [b] pos) (decide (i = j)) :=
  fun f Q wh hf h => T_t_Compare hm (ha.2 f _ hf fun v hv => hb.2 f _ hf fun w hw => hv.elim fun ι h1 => hw.elim fun ι h2 => h1 ▸ h2 ▸ T_eq (T_t_bool h))
theorem sF {ss : List Stmt} {k : Nat} {s : Stmt} (hs : ss.drop k = s :: ss.drop (k + 1)) (h : SH B n env F L ps (s :: ss.drop (k + 1)) Q) : SH B n env F L ps (ss.drop k) Q := by rw [hs]; exact h
theorem sF_is {ss : List Stmt} {k : Nat} (h : SH B n env F L ps (ss.drop k) Q) : SH B n env F L ps (ss.drop k) Q := h
theorem sA_is (h : SH B n env F L ps (.Assign [.Name x px] e pos :: rest) Q) : SH B n env F L ps (.Assign [.Name x px] e pos :: rest) Q := h
theorem sA (E : EnvIs env ks F cl) (hk : (x, NameKind.local) ∈ ks) (hsw : swapsWith e (some (.Name x px)) pos.line env = pure false) (hx : (ps.all fun p => !(p.1 == x)) = true) (he : EvH B n env F L ps e P) (h : SH B n env F L ((x, P) :: ps) rest Q) : SH B n env F L ps (.Assign [.Name x px] e pos :: rest) Q :=
  fun f hf => T_s_Assign hsw (he.2 f _ hf fun v hv => T_stf E hk .head (h _ (hf.up hx hv)))
theorem sA2 (E : EnvIs env ks F cl) (hk : (x, NameKind.local) ∈ ks) (hsw : swapsWith e (some (.Name x px)) pos.line env = pure false) (hx : (ps.all fun p => !(p.1 == x)) = true) (he : EvH B n env F L ((x, P1) :: ps) e P) (h : SH B n env F L ((x, P) :: ps) rest Q) : SH B n env F L ((x, P1) :: ps) (.Assign [.Name x px] e pos :: rest) Q :=
  fun f hf => T_s_Assign hsw (he.2 f _ hf fun v hv => T_stf E hk .head (h _ (FS.up (fun p hp => hf p (.tail _ hp)) hx hv)))
theorem sA3 {ps' : Fs} (E : EnvIs env ks F cl) (hk : (x, NameKind.local) ∈ ks) (hsw : swapsWith e (some (.Name x px)) pos.line env = pure false) (hx : ps.filter (fun p => !(p.1 == x)) = ps') (he : EvH B n env F L ps e P) (h : SH B n env F L ((x, P) :: ps') rest Q) : SH B n env F L ps (.Assign [.Name x px] e pos :: rest) Q := by
  subst hx
  exact fun f hf => T_s_Assign hsw (he.2 f _ hf fun v hv => T_stf E hk .head (h _ (FS.up (fun p hp => hf p (List.mem_filter.mp hp).1) (List.all_eq_true.mpr fun p hp => (List.mem_filter.mp hp).2) hv)))
theorem sY {r : Bool} {body orelse : List Stmt} (ht : TsH B n env F L ps e r) (hr : r = true) (h : SH B n env F L ps body (Seq B n rest env Q)) : SH B n env F L ps (.If e body orelse pos :: rest) Q :=
  fun f hf => T_s_If (ht f _ _ hf ⟨fun ι => h f hf, fun e => by rw [hr] at e; cases e⟩)
theorem sN {r : Bool} {body orelse : List Stmt} (ht : TsH B n env F L ps e r) (hr : r = false) (h : SH B n env F L ps orelse (Seq B n rest env Q)) : SH B n env F L ps (.If e body orelse pos :: rest) Q :=
  fun f hf => T_s_If (ht f _ _ hf ⟨fun e => by (rw [hr] at e; cases e), fun ι => h f hf⟩)
theorem s0 {env' : Env} (h : SH B n env' F L ps rest Q) : SH B n env F L ps [] (Seq B n rest env' Q) := fun f hf => T_nilSeq (h f hf)
theorem sR {k : Nat} {p : Pos} {c : Expr} {w : UInt64} (ha : EvH B n env F L ps a (IsF y)) (hb : EvH B n env F L ps b (IsF z)) (hc : EvH B n env F L ps c (IsF w)) (h : ∀ f q k1 k2 k3, k1 ≠ 0 → k2 ≠ 0 → k3 ≠ 0 → Q (.ret (.ref q)) ((q, tup [.float y k1, .float z k2, .float w k3]) :: (F, .nf f) :: L)) : SH B n env F L ps (.Return (some (.Tuple [a, b, c] k p)) pos :: rest) Q :=
  fun f hf => T_s_Return (T_Tuple (T_items_cons (ha.1 _) (ha.2 f _ hf fun v1 h1 => T_items_cons (hb.1 _) (hb.2 f _ hf fun v2 h2 => T_items_cons (hc.1 _) (hc.2 f _ hf fun v3 h3 => T_items_nil ⟨of_decide_eq_true rfl, fun q => h1.elim fun k1 h1 => h2.elim fun k2 h2 => h3.elim fun k3 h3 => h1.2 ▸ h2.2 ▸ h3.2 ▸ h f q k1 k2 k3 h1.1 h2.1 h3.1⟩)))))
end
set_option bootstrap.genMatcherCode true
set_option compiler.extract_closed false
private def wT (k : String) (as : List Lean.Syntax) : Lean.Syntax := .node .none ("Lean.Parser." ++ k).toName as.toArray
private def wL (k : String) (as : List Lean.Syntax) : Lean.Syntax := .node .none k.toName as.toArray
private def wQ (as : List Lean.Syntax) : Lean.Syntax := wT "Tactic.tacticSeq" [wT "Tactic.tacticSeq1Indented" [wL "null" (as.flatMap fun t => [t, .atom .none ";"])]]
private def wU (k : String) (as : List Lean.Syntax) : Lean.Syntax := wT ("Tactic." ++ k) [.missing, wQ as]
private def wX (k : String) (t : Lean.Syntax) : Lean.Syntax := wT ("Tactic." ++ k) [.missing, t]
private def wI (s : String) : Lean.Syntax := Lean.mkIdent s.toName
private def wW (s : String) : Lean.Syntax := wL ("PySem.W.tactic" ++ s.capitalize) [.atom .none s]
private def wG (wE : String → Lean.Syntax) (s : String) : Lean.Syntax :=
    let r := (s.drop 1).toString
    let g (t : Lean.Syntax) : Lean.Syntax := wT "Term.byTactic" [.atom .none "by", wQ [t]]
    let a (u : String) : List Lean.Syntax := u.toList.map fun c => wE ((" m!tb_rel s!tb_start p!ktu_off1L u!kst_allIn f!kt_len g!keq_rows v!kba_ints h!keq_hits k!kst_all1 a* d~ o%=of_decide_eq_true:r n%=List.cons_ne_nil:__ b=Nat.le_of_ble_eq_true:u i%\\\\\\=rfl j%\\=rfl l=PyProof.noPylong_small:d r=rfl w=swap2_is:ammuuuuu x=swap3_is:ammmuuuuu y=swap_cell1:am z=swap_cell2:am F\\? __ ?? ".splitOn (" ".push c))[1]!.splitOn " ").head!
    match s.front with
    | '!' => g (wW r)
    | '*' => g (wX "assumption" .missing)
    | '~' => g (wX "decide" (wT "Tactic.optConfig" [wL "null" []]))
    | '%' => g (wU "withUnfoldingAll" [wX "exact" (wE r)])
    | '\\' => wT "Term.fun" [.atom .none "fun", wT "Term.basicFun" [wL "null" [wE "_"], wL "null" [], .atom .none "=>", wE r]]
    | '<' => wT "Term.anonymousCtor" [.atom .none "⟨", wL "null" ((a r).intersperse (.atom .none ",")), .atom .none "⟩"]
    | '_' => wT "Term.hole" [.atom .none "_"]
    | '?' => wT "Term.syntheticHole" [.atom .none "?", .atom .none "_"]
    | _ => let p := r.splitOn ":"
           let t := a (p.getD 1 "") ++ ((p.getD 3 "").splitOn ",").filterMap fun i => if i == "" then none else some (wI i)
           if t.isEmpty then wI (p.headD "") else wT "Term.app" [wI (p.headD ""), wL "null" t]
private def wE : String → Lean.Syntax := Nat.repeat wG 9 fun _ => .missing
private def wS (s : String) : List Lean.Syntax := (s.splitOn ";").flatMap fun s =>
  let r := (s.drop 1).toString
  match s.front with
  | '+' => [wX "apply" (wI r)]
  | '-' => [wU "failIfSuccess" [wX "apply" (wI r)]]
  | '*' => [wX "assumption" .missing]
  | '.' => [wX "done" .missing]
  | '&' => [wW r]
  | '@' => [wU "focus" [wW r]]
  | '=' => [wU "withReducible" [wX "exact" (wE s)]]
  | '<' => [wU "withReducible" [wX "refine" (wE s)]]
  | _ => let p := s.splitOn ":"
         wU "withReducible" [wX "refine" (wE ("=" ++ p.headD "" ++ ":" ++ p.getD 1 "" ++ "?"))] ::
           match p[2]? with
           | none => []
           | some k => [wX "intro" (wL "null" (k.toList.map fun _ => wE "_"))]
private def wF (as : List (List Lean.Syntax)) : Lean.Syntax := wX "first" (wL "null" (as.map fun t => wL "group" [.atom .none "|", wQ t]))
private def wA (s : String) : Lean.Syntax := wF ((s.splitOn " ").map wS)
private def wR (s : String) : List Lean.Syntax := [wU "withReducible" [wU "tacticRepeat_" [wA s], wX "done" .missing]]
local macro_rules | `(tactic| kt_len) => pure (wF [wR "* +up_eq up_ne:r"])
local macro_rules | `(tactic| tb_rel) => pure (wF [wR "+List.mem_cons_self +M1 +M2 +M3 +M4 +M5 +M6 +M7 +J8", wR "* +List.mem_cons_self +J1"])
local macro_rules | `(tactic| tb_start) => pure (wF [wR "+Rem.head +rem_app +R1 +R2 +R3 +R4 +R5 +R6 +R7 +RJ8", wR "* +Rem.head +rem_app +RJ1"])
local macro_rules | `(tactic| ktu_off1L) => pure (wF [wR "+Put.head +U1 +U2 +U3 +U4 +U5 +U6 +U7 +UJ8"])
local macro_rules | `(tactic| kct_strs) => pure (wF [wR "+Pick.refl +Pick.nil +pick_app +PJ8 +PJ1 +pick_g;Pick.cons:s -pick_g;+pick_g2;Pick.skip"])
local macro_rules | `(tactic| kst_allIn) => pure (wU "withUnfoldingAll" [wX "tacticRfl" .missing])
local macro_rules | `(tactic| keq_rows) => pure (wA "=gv_div2n1n:a =gv_int2digits:a =gv_digits2int:a =gv_divmod_pos:a =gv_int_divmod:a =gv_hls:a =gv_hsv:a =gv_rgb:a =gv_flags:a =gv_gni:a =gv_lexer:a =gv_netrclex:a =gv_hues:a =gv_told:a =gv_pass:a =gv_meet:a =gv_CFN:a =gw_min:a =gw_max:a =gw_sorted:a =gw_sum:a =gw_len:a =gw_list:a =gw_range:a =gw_enumerate:a =gw_iter:a =gw_int:a =gw_abs:a =gw_hex:a =gw_divmod:a =gw_reversed:a *")
local macro_rules | `(tactic| kst_all1) => pure (wA "=kp_blt =kp_ty =kp_fnL:mr =kp_21:a =kp_35:a =kp_42:a =kp_49:a =kp_56:a =kp_63:a =kp_70:a =kp_77:a =kp_85:a =kp_115:a =kp_164:a =kp_153:a =kp_171:a =kp_178:a =kp_185:a =kp_190:a")
local macro_rules | `(tactic| keq_hits) => pure (wA "=cal_int:::PySem.F.slot_int_bit_length,PySem.F.type_int_bit_length =cal_ls:m::slot_list_append,type_list_append =cal_ls:m::PySem.F.slot_list_pop,PySem.F.type_list_pop =cal_ls:m::PySem.F.slot_list_reverse,PySem.F.type_list_reverse =cal_ls:m::PySem.F.slot_list_remove,PySem.F.type_list_remove =cal_ls:m::PySem.F.slot_list_index,PySem.F.type_list_index")
local macro_rules | `(tactic| lcg_off) => pure (wF [
  wS "T_isName;T_nm:am" ++ [wA "nm_is_local;nm_f:mf nm_is_local;nm_local:mm nm_is_cell;nm_cell:mm nm_is_free;nm_free:mm nm_is_glob;nm_glob:g"],
  wS "T_isConst" ++ [wA "T_c_int::1 T_c_str::1 T_c_none T_c_bool T_cfloat::12 T_c_float::1"],
  [wA "T_BinOp T_UnaryOp T_gCompare;T_Compare:u T_IfExp T_gCall1;T_Call1:u T_gMeth1;T_MethS1:uuuu T_gMeth0;T_MethS0:uu T_Tuple T_List T_gAttr;T_Attribute:u T_Sub"]])
local macro_rules | `(tactic| tlg_ne) => pure (wA "T_s_If T_hAssign;T_s_Assign:u T_s_Return T_s_Aug T_hSwap2;T_s_Swap2:uwuu T_hSwap3;T_s_Swap3:uxuuu T_hTupC;T_s_AsTup:uy T_hTupC2;T_s_AsTup:uz T_hAsTup;T_s_AsTup:uu T_hAsAttr;T_s_AsAttr:uu T_hAsSub;T_s_AsSub:uui T_s_ReturnNone T_hFor;T_s_For:j T_hExpr;T_s_Expr:au T_nilSeq T_s_Break T_s_Continue T_nil")
local macro_rules | `(tactic| kcj_in) => pure (wF [
  wS "T_isCmp" ++ [wA "T_eq T_lt T_lte T_gt T_gte T_neq T_eqS T_feq T_fle T_neS T_inS"],
  wS "T_isBin" ++ [wA "T_add::1 T_fadd::12 T_fsub::12 T_fmul::12 T_sub::1 T_and::1 T_or::1 T_isLShift;T_shl:ddo:1 T_isRShift;T_shr:d:1 T_isMult;T_mul::1 T_isFloorDiv;T_fdiv:dl:1 T_isMod;T_fmod:d:1"],
  wS "T_isInp" ++ [wA "T_iadd::1 T_isub::1 T_ixor::1"],
  [wA "T_neg::1 T_inv::1 T_t_int' T_t_bool T_isTruthRef;T_t_ls:mo T_bitlen::1 T_clen;T_len:mo:1 T_crange1;T_range1::123 T_cabs;T_abs::1 T_cmax2;T_max2:n:1 T_cmin2;T_min2:n:1 T_cappend;T_append:sb T_creverse;T_reverse:sb T_creversed;T_reversed:m:1 T_isSetItem;T_setItem:sooo T_isTailL;T_item_ls:moouu T_isTailL;T_item_tup:moouu T_isUnpack;T_unpackItems:mu"]])
local macro_rules | `(tactic| nest_cls) => pure (wF [
  wS "T_isEval;&lcg_off", wS "T_isExecs;&tlg_ne",
  wS "T_isSpl" ++ [wA "T_isSplc;T_items_cons:u T_items_nil"],
  wS "T_sm:am" ++ [wA "sm_is_local;sm_f:s sm_is_local;sm_local:sp sm_is_cell;sm_cell:ms"],
  wS "T_lm:am" ++ [wA "lm_is_local;lm_f:mf lm_is_local;lm_local:mm lm_is_cell;lm_cell:mm"],
  wS "T_isTest" ++ [wA "T_kCompare;T_t_Compare:u T_t_Not T_t_Or T_t_And T_t_val:u"],
  [wA "T_isCal;<_h? T_isKp;<k? T_isBind;T_bindName &kcj_in D_f D_t comp_some comp_none un_succ un_zero forp_none forp_is;forp_some:u seq_ret seq_brk seq_cont seq_next loop_ret loop_brk loop_cont loop_next T_isHeap;<u? T_assignName T_isAsTup;T_asTup:muu T_isAioE;T_aioE_cons:u T_aioE_nil T_aio_cons T_aio_nil T_isLe;<bF"]])
local macro_rules | `(tactic| kba_ints) => pure (wU "withReducible" [wA "=hC =hI +hN_is;=hN:amm +hSub;&kba_ints;&kba_ints +hAdd;&kba_ints;&kba_ints +hMul;&kba_ints;&kba_ints +hSubI;*;&kba_ints;&kba_ints +hModI;&kba_ints;&kba_ints;&kst_allIn +hInt_is;+hInt;*;*;@tb_rel;&kba_ints;* +hDiv;&kba_ints;&kba_ints;* +hMod;&kba_ints;&kba_ints;* +hMax_is;+hMax;*;*;@tb_rel;&kba_ints;&kba_ints;&kba_ints +hMin_is;+hMin;*;*;@tb_rel;&kba_ints;&kba_ints;&kba_ints"])
local macro_rules | `(tactic| ksw_less) => pure (wU "withReducible" [wA "+sF_is;sF:u +sA_is;+sA;*;@tb_rel;&kst_allIn;&kst_allIn;&kba_ints +sA_is;+sA2;*;@tb_rel;&kst_allIn;&kst_allIn;&kba_ints"])
set_option bootstrap.genMatcherCode false
noncomputable def meetStep (xs ys : List Int) (st : List Int × List Int × List Int) (h : Int) : List Int × List Int × List Int :=
  let p := if h ∈ xs then st.1 ++ [h] else st.1
  if h ∈ ys then (if p = [] then (p, st.2.1 ++ [h], st.2.2) else (p.dropLast, st.2.1, st.2.2 ++ [p.getLastD 0])) else (p, st.2.1, st.2.2)
noncomputable def meetTo (xs ys : List Int) (k : Nat) : List Int × List Int × List Int := (rangeKs 0 k).foldl (meetStep xs ys) ([], [], [])
theorem rangeKs_succ (k : Nat) : rangeKs 0 (k + 1) = rangeKs 0 k ++ [(k : Int)] := by
  unfold rangeKs
  rw [List.range_succ, List.map_append]
  simp
theorem meetTo_succ (xs ys : List Int) (k : Nat) : meetTo xs ys (k + 1) = meetStep xs ys (meetTo xs ys k) k := by
  unfold meetTo
  rw [rangeKs_succ, List.foldl_append]
  rfl
noncomputable def meetB (ys p lt gn : List Int) (h : Int) : List Int × List Int × List Int := if h ∈ ys then (if p = [] then (p, lt ++ [h], gn) else (p.dropLast, lt, gn ++ [p.getLastD 0])) else (p, lt, gn)
theorem meetTo_B (xs ys : List Int) (k : Nat) : meetTo xs ys (k + 1) = meetB ys (if (k : Int) ∈ xs then (meetTo xs ys k).1 ++ [(k : Int)] else (meetTo xs ys k).1) (meetTo xs ys k).2.1 (meetTo xs ys k).2.2 k := meetTo_succ xs ys k
theorem len_snoc {α : Type} {l : List α} {x : α} {k : Nat} (h : l.length ≤ k) : (l ++ [x]).length ≤ k + 1 := by rw [List.length_append]; exact Nat.succ_le_succ h
theorem meetB_len {ys p lt gn : List Int} {h : Int} {k : Nat} (h1 : p.length ≤ k + 1) (h2 : lt.length ≤ k) (h3 : gn.length ≤ k) : (meetB ys p lt gn h).1.length ≤ k + 1 ∧ (meetB ys p lt gn h).2.1.length ≤ k + 1 ∧ (meetB ys p lt gn h).2.2.length ≤ k + 1 := by
  unfold meetB
  split
  · split
    · exact ⟨h1, len_snoc h2, Nat.le_succ_of_le h3⟩
    · exact ⟨Nat.le_trans (by rw [List.length_dropLast]; exact Nat.sub_le _ _) h1, Nat.le_succ_of_le h2, len_snoc h3⟩
  · exact ⟨h1, Nat.le_succ_of_le h2, Nat.le_succ_of_le h3⟩
theorem meetA_len {xs p : List Int} {h : Int} {k : Nat} (h1 : p.length ≤ k) : (if h ∈ xs then p ++ [h] else p).length ≤ k + 1 := by
  split
  · exact len_snoc h1
  · exact Nat.le_succ_of_le h1
theorem meet_len (xs ys : List Int) : ∀ k, (meetTo xs ys k).1.length ≤ k ∧ (meetTo xs ys k).2.1.length ≤ k ∧ (meetTo xs ys k).2.2.length ≤ k
  | 0 => ⟨Nat.le_refl _, Nat.le_refl _, Nat.le_refl _⟩
  | k + 1 => meetTo_B xs ys k ▸ meetB_len (meetA_len (meet_len xs ys k).1) (meet_len xs ys k).2.1 (meet_len xs ys k).2.2
theorem intsAre_last : ∀ {vs : List Value} {ns : List Int}, IntsAre vs ns → ns ≠ [] → ∃ q t, vs = q ++ [.int (ns.getLastD 0) t] ∧ IntsAre q ns.dropLast := by
  intro vs ns h
  induction h with
  | nil => intro hn; exact absurd rfl hn
  | @cons y t vs ns hh ih =>
    intro _
    cases ns with
    | nil => cases hh; exact ⟨[], t, rfl, .nil⟩
    | cons z ns => exact (ih (List.cons_ne_nil _ _)).elim fun q h => h.elim fun t' h => ⟨.int y t :: q, t', by rw [h.1]; rfl, .cons y t h.2⟩
theorem pop_turn {P : List Int} {m : Nat} (hm : m < P.length) : (P.take (m + 1)).dropLast = P.take m ∧ (P.take (m + 1)).getLastD 0 = P[m] ∧ P.drop m = P[m] :: P.drop (m + 1) ∧ P.take (m + 1) ≠ [] := by
  have e : P.take (m + 1) = P.take m ++ [P[m]] := by rw [List.take_add_one]; simp [hm]
  refine ⟨by rw [e]; exact List.dropLast_concat, by rw [e]; exact List.getLastD_concat .., List.drop_eq_getElem_cons hm, by rw [e]; exact List.append_ne_nil_of_right_ne_nil _ (List.cons_ne_nil _ _)⟩
noncomputable abbrev meetKs : List (Str × NameKind) := [("left", .local), ("right", .local), ("pile", .cell), ("late", .local), ("given", .local), ("hue", .local), ("range", .globalImplicit), ("sorted", .globalImplicit), ("len", .globalImplicit)]
noncomputable def meetT : List Stmt := fnB (stAt 25)
noncomputable def meetW : List Stmt := forB (nB meetT 1)
section
variable {B : Bg} {n : Nat} {L : Led} {env : Env} {F l r pl ll gl c : Addr} {f : Str → Option Value} {vx vy pv lv gv : List Value} {xs ys P lt gn : List Int} {k : Int} {t : Tok} {Q : Flow → Led → Prop} {j : Nat}
set_option maxHeartbeats 4000000
theorem m_0 (E : EnvIs env meetKs F [("pile", c)]) (e1 : f "left" = some (.ref l)) (e2 : f "hue" = some (.int k t)) (hc : (c, .ce (some (.ref pl))) ∈ L) (hl : (l, .ls vx) ∈ L) (hx : IntsAre vx xs) (hp : IntsAre pv P) (hz : P.length ≤ 20)
    (h : ∀ pw, IntsAre pw (if k ∈ xs then P ++ [k] else P) → T B (n + 3) (execs (meetW.drop 1) env) ((F, .nf f) :: (pl, .ls pw) :: L) Q) : T B (n + 3) (execs (meetW.drop 0) env) ((F, .nf f) :: (pl, .ls pv) :: L) Q := by
  refine T_fr rfl ?_
  repeat nest_cls
  refine T_inInts (by tb_rel) hx (Nat.succ_le_of_lt (Nat.succ_pos _)) ?_
  repeat nest_cls
  refine D_if (fun hin => ?_) (fun hin => ?_)
  · repeat nest_cls
    refine T_append (by tb_start) (szl (by rw [intsAre_len hp]; exact Nat.le_trans hz (by decide))) ?_
    repeat nest_cls
    exact T_pick (by kct_strs) (h _ (by rw [if_pos hin]; exact intsAre_append hp (.cons k t .nil)))
  · repeat nest_cls
    exact h _ (by rw [if_neg hin]; exact hp)
theorem m_1 (E : EnvIs env meetKs F [("pile", c)]) (e1 : f "right" = some (.ref r)) (e2 : f "hue" = some (.int k t)) (e3 : f "late" = some (.ref ll)) (e4 : f "given" = some (.ref gl)) (hc : (c, .ce (some (.ref pl))) ∈ L) (hr : (r, .ls vy) ∈ L) (hy : IntsAre vy ys) (hp : IntsAre pv P) (hl : IntsAre lv lt) (hg : IntsAre gv gn) (hz : P.length ≤ 20 ∧ lt.length ≤ 20 ∧ gn.length ≤ 20)
    (h : ∀ pw lw gw, IntsAre pw (meetB ys P lt gn k).1 → IntsAre lw (meetB ys P lt gn k).2.1 → IntsAre gw (meetB ys P lt gn k).2.2 → Q .next ((F, .nf f) :: (pl, .ls pw) :: (ll, .ls lw) :: (gl, .ls gw) :: L)) :
    T B (n + 3) (execs (meetW.drop 1) env) ((F, .nf f) :: (pl, .ls pv) :: (ll, .ls lv) :: (gl, .ls gv) :: L) Q := by
  refine T_weak (T_fr rfl ?_)
  have n1 : 1 ≤ n + 3 := Nat.succ_le_of_lt (Nat.succ_pos _)
  have z1 : lv.length ≤ 1000 := by rw [intsAre_len hl]; exact Nat.le_trans hz.2.1 (by decide)
  have z2 : gv.length ≤ 1000 := by rw [intsAre_len hg]; exact Nat.le_trans hz.2.2 (by decide)
  repeat nest_cls
  refine T_inInts (by tb_rel) hy n1 ?_
  repeat nest_cls
  unfold meetB at h
  refine D_if (fun hiy => ?_) (fun hiy => ?_)
  · repeat nest_cls
    refine T_eqInts (by tb_rel) hp (by tb_rel) .nil n1 ?_
    repeat nest_cls
    rw [if_pos hiy] at h
    refine D_if (fun hn => ?_) (fun hn => ?_)
    · repeat nest_cls
      refine T_append (by tb_start) (szl z1) ?_
      repeat nest_cls
      rw [if_pos hn] at h
      exact T_nl rfl ⟨_, by kct_strs, h _ _ _ hp (intsAre_append hl (.cons k t .nil)) hg⟩
    · repeat nest_cls
      refine T_inInts (by tb_rel) hy n1 ?_
      repeat nest_cls
      refine D_yes hiy ?_
      rw [if_neg hn] at h
      refine (intsAre_last hp hn).elim fun q hq => hq.elim fun tq hq => ?_
      have hp2 := hz.1
      rw [hq.1] at hp ⊢
      have z3 : q.length < sizeLine := Nat.lt_of_lt_of_le (Nat.lt_of_lt_of_le (by rw [List.length_append]; exact Nat.lt_succ_self _) (Nat.le_trans (Nat.le_of_eq (intsAre_len hp)) (Nat.le_trans hp2 (show 20 ≤ 1000 by decide)))) (szl (Nat.le_refl _))
      repeat nest_cls
      refine T_popLast (by tb_start) z3 ?_
      repeat nest_cls
      refine T_append (by tb_start) (szl z2) ?_
      repeat nest_cls
      exact T_nl rfl ⟨_, by kct_strs, h _ _ _ hq.2 hl (intsAre_append hg (.cons _ _ .nil))⟩
  · repeat nest_cls
    refine T_inInts (by tb_rel) hy n1 ?_
    repeat nest_cls
    refine D_no hiy ?_
    repeat nest_cls
    rw [if_neg hiy] at h
    exact T_nl rfl ⟨_, by kct_strs, h _ _ _ hp hl hg⟩
theorem ar9 {a b c d m : Nat} (h : a + 1 + (c - m) = b) (h2 : b ≤ c) (h3 : m ≤ c) : ∃ m', m = m' + 1 ∧ m' < c ∧ m' ≤ c ∧ a + (c - m') = b := by
  cases m with
  | zero => exfalso; omega
  | succ m' => exact ⟨m', rfl, h3, Nat.le_of_succ_le h3, by omega⟩
theorem ar10 {b c m : Nat} (h : 0 + (c - m) = b) (h2 : b ≤ c) (h3 : m ≤ c) : m = c - b := by rw [← h, Nat.zero_add, Nat.sub_sub_self h3]
inductive InvE (L : Led) (C acc F pl gl : Addr) (f : Str → Option Value) (gv : List Value) (P : List Int) (z : Nat) : List Value → Led → Prop
  | mk {m : Nat} {pw av : List Value} {o : Option Value} {rs : List Value} : rs.length + (P.length - m) = z → m ≤ P.length → IntsAre pw (P.take m) → IntsAre av (P.drop m).reverse → InvE L C acc F pl gl f gv P z rs ((C, .ns [("_", o)]) :: (acc, .ls av) :: (F, .nf f) :: (pl, .ls pw) :: (gl, .ls gv) :: L)
theorem m_2 (E : EnvIs env meetKs F [("pile", c)]) (e3 : f "late" = some (.ref ll)) (e4 : f "given" = some (.ref gl)) (hc : (c, .ce (some (.ref pl))) ∈ L) (hll : (ll, .ls lv) ∈ L) (hp : IntsAre pv P) (hl : IntsAre lv lt) (hg : IntsAre gv gn) (hz : P.length ≤ 20 ∧ lt.length ≤ 20 ∧ gn.length ≤ 20) (hle : lt.length ≤ P.length)
    (h : ∀ pw av, IntsAre pw (P.take (P.length - lt.length)) → IntsAre av (P.drop (P.length - lt.length)).reverse → T B (n + 3) (execs (meetT.drop 3) env) ((F, .nf (up f "given" (.ref gl))) :: (pl, .ls pw) :: (gl, .ls (gv ++ av)) :: L) Q) :
    T B (n + 3) (execs (meetT.drop 2) env) ((F, .nf f) :: (pl, .ls pv) :: (gl, .ls gv) :: L) Q := by
  have e5 := intsAre_len hl
  refine T_fr rfl ?_
  repeat nest_cls
  refine T_ListComp [("_", .local), ("pile", .cell)] [("pile", c)] [("_", none)] E (by kst_allIn) (of_decide_eq_true rfl) rfl rfl rfl (by kst_allIn) (by kst_allIn) rfl rfl (fun ι => rfl) ?_
  repeat nest_cls
  refine T_iter_ls (by tb_rel) fun it => ?_
  intro acc C cenv E'
  refine ⟨self_ls (by tb_rel), ?_⟩
  refine Tc_pick (L' := (it, lsIter ll 0) :: (C, .ns [("_", none)]) :: (acc, .ls []) :: (F, .nf f) :: (pl, .ls pv) :: (gl, .ls gv) :: L) (by kct_strs) ?_
  refine Tc_comp_ls (l := ll) (vs := lv) (InvE L C acc F pl gl f gv P lv.length) ?hm (fun ι ι => rfl) ?turn ?fin .head (.mk (m := P.length) (by rw [Nat.sub_self]; rfl) (Nat.le_refl _) (by rw [List.take_length]; exact hp) (by rw [List.drop_length]; exact .nil))
  case hm => exact fun ι ι I => by cases I; exact J1 (J1 (J1 (J1 (J1 hll))))
  case turn =>
    intro ia X x rs L' I
    cases I with | @mk m pw av o _ hm hml hpw hav =>
    rw [List.length_cons] at hm
    refine (ar9 (d := 0) hm (e5 ▸ hle) hml).elim fun m' em => ?_
    have em1 := em.1
    subst em1
    have pt := pop_turn em.2.1
    refine (intsAre_last hpw pt.2.2.2).elim fun q hq => hq.elim fun tq hq => ?_
    have lq : q.length ≤ 20 := by rw [intsAre_len hq.2, pt.1, List.length_take]; exact Nat.le_trans (Nat.min_le_right _ _) hz.1
    have la : av.length ≤ 20 := by rw [intsAre_len hav, List.length_reverse, List.length_drop]; exact Nat.le_trans (Nat.sub_le _ _) hz.1
    have hq2 := hq.2
    rw [pt.1] at hq2
    rw [hq.1, pt.2.1]
    repeat nest_cls
    refine T_popLast (by tb_start) (Nat.lt_of_le_of_lt lq (by decide)) ?_
    repeat nest_cls
    refine T_append (by tb_start) (szl (Nat.le_trans la (by decide))) ?_
    exact ⟨_, .cons R3 (.cons (.tail (.tail .head)) (.cons .head (.cons R1 (.cons .head .refl)))), .mk (m := m') em.2.2.2 em.2.2.1 hq2 (by rw [pt.2.2.1, List.reverse_cons]; exact intsAre_append hav (.cons _ _ .nil))⟩
  case fin =>
    intro L' I
    cases I with | @mk m pw av o _ hm hml hpw hav =>
    have e6 := ar10 hm (e5 ▸ hle) hml
    rw [e5] at e6
    subst e6
    have la : av.length ≤ 20 := by rw [intsAre_len hav, List.length_reverse, List.length_drop]; exact Nat.le_trans (Nat.sub_le _ _) hz.1
    have lg : gv.length ≤ 20 := by rw [intsAre_len hg]; exact hz.2.2
    refine ⟨_, _, .head, List.cons_ne_nil _ _, ?_⟩
    refine T_iaddList (by tb_start) (by tb_rel) (Nat.le_trans (Nat.add_le_add lg la) (by decide)) ?_
    repeat nest_cls
    exact T_pick (by kct_strs) (h pw av hpw hav)
theorem m_3 (O : Our B) (E : EnvIs env meetKs F [("pile", c)]) (e1 : f "right" = some (.ref r)) (e3 : f "late" = some (.ref ll)) (e4 : f "given" = some (.ref gl)) (hc : (c, .ce (some (.ref pl))) ∈ L) (hr : (r, .ls vy) ∈ L) (hll : (ll, .ls lv) ∈ L) (hgl : (gl, .ls gv) ∈ L) (hpl : (pl, .ls pv) ∈ L) (hy : IntsAre vy ys) (hp : IntsAre pv P) (hl : IntsAre lv lt) (hg : IntsAre gv gn) (hz : P.length ≤ 20 ∧ lt.length ≤ 20 ∧ gn.length ≤ 60) (hlen : ys.length ≤ 40)
    (h : ∀ t g q gv gs qv qs k, IntsAre gv gs → IntsAre qv qs → gs.Pairwise (· ≤ ·) → qs.Pairwise (· ≤ ·) → gs.Perm gn → qs.Perm (P ++ ys) → Q (.ret (.ref t)) ((t, tup [.ref g, .ref q, .int lt.length k]) :: (g, .ls gv) :: (q, .ls qv) :: (F, .nf f) :: L)) :
    T B (n + 3) (execs (meetT.drop 3) env) ((F, .nf f) :: L) Q := by
  have lp : pv.length + vy.length ≤ 60 := by rw [intsAre_len hp, intsAre_len hy]; exact Nat.add_le_add hz.1 hlen
  have lp2 : (pv ++ vy).length < 64 := by rw [List.length_append]; exact Nat.lt_of_le_of_lt lp (by decide)
  have lg : gv.length < 64 := by rw [intsAre_len hg]; exact Nat.lt_of_le_of_lt hz.2.2 (by decide)
  have e5 := intsAre_len hl
  refine T_weak (T_fr rfl ?_)
  repeat nest_cls
  refine T_sorted (by tb_rel) hg lg fun g gv' gs i1 i2 i3 => ?_
  repeat nest_cls
  refine T_addList (by tb_rel) (by tb_rel) (szl (Nat.le_trans lp (by decide))) fun pr => ?_
  repeat nest_cls
  refine T_sorted (by tb_rel) (intsAre_append hp hy) lp2 fun q qv qs j1 j2 j3 => ?_
  repeat nest_cls
  refine T_len (by tb_rel) (by rw [e5]; exact Nat.lt_of_le_of_lt hz.2.1 (by decide)) fun tk => ?_
  repeat nest_cls
  rw [e5]
  exact ⟨_, by kct_strs, h _ _ _ _ _ _ _ _ i1 j1 i3 j3 i2 j2⟩
noncomputable def MF (l r ll gl : Addr) (f : Str → Option Value) : Prop := f "right" = some (.ref r) ∧ f "left" = some (.ref l) ∧ f "late" = some (.ref ll) ∧ f "given" = some (.ref gl)
theorem MF.hue {v : Value} (P : MF l r ll gl f) : MF l r ll gl (up f "hue" v) := ⟨up_ne rfl P.1, up_ne rfl P.2.1, up_ne rfl P.2.2.1, up_ne rfl P.2.2.2⟩
inductive InvM (L : Led) (F l r pl ll gl : Addr) (xs ys : List Int) : Int → Led → Prop
  | mk {f : Str → Option Value} {pv lv gv : List Value} (k : Nat) : MF l r ll gl f → IntsAre pv (meetTo xs ys k).1 → IntsAre lv (meetTo xs ys k).2.1 → IntsAre gv (meetTo xs ys k).2.2 → InvM L F l r pl ll gl xs ys (k : Int) ((F, .nf f) :: (pl, .ls pv) :: (ll, .ls lv) :: (gl, .ls gv) :: L)
set_option tactic.hygienic true in
theorem c_meet (O : Our B) {Q : Value → Led → Prop} (hml : (l, It.ls vx) ∈ L) (hmr : (r, It.ls vy) ∈ L) (hx : IntsAre vx xs) (hy : IntsAre vy ys) (hlen : ys.length ≤ 40)
    (hlate : (meetTo xs ys 16).2.1.length ≤ (meetTo xs ys 16).1.length)
    (h : ∀ t g q gv gs qv qs k, IntsAre gv gs → IntsAre qv qs → gs.Pairwise (· ≤ ·) → qs.Pairwise (· ≤ ·) →
      gs.Perm ((meetTo xs ys 16).2.2 ++ (meetTo xs ys 16).1.drop ((meetTo xs ys 16).1.length - (meetTo xs ys 16).2.1.length)) →
      qs.Perm ((meetTo xs ys 16).1.take ((meetTo xs ys 16).1.length - (meetTo xs ys 16).2.1.length) ++ ys) →
      Q (.ref t) ((t, tup [.ref g, .ref q, .int (meetTo xs ys 16).2.1.length k]) :: (g, .ls gv) :: (q, .ls qv) :: L)) : T B (n + 4) (call (.ref 190) [.ref l, .ref r] []) L Q := by
  refine T_weak ?_
  refine T_scdef O 190 [("left", .ref l), ("right", .ref r)] [("left", .ref l), ("right", .ref r)] [] ["late", "given", "hue"] meetKs
    [("right", some (.ref r)), ("left", some (.ref l)), ("late", none), ("given", none), ("hue", none)]
    [("pile", 0, none)] (fun c => [("pile", c 0)]) (fun c => [(c 0, .ce none)])
    rfl (by kernel_rfl) rfl rfl (by rfl) (by rfl) (by rfl) (by rfl) (fun ι => rfl) (fun ι => rfl) (by decide) rfl (by rfl) (by decide) (by decide) rfl rfl rfl rfl rfl rfl ?_
  intro F env c E _ _
  dsimp only [List.cons_append, List.nil_append] at E ⊢
  generalize c 0 = c at E ⊢
  refine T_nfx (P := fun f => f "right" = some (.ref r) ∧ f "left" = some (.ref l)) ⟨rfl, rfl⟩ fun f P => ?_
  show T B (n + 3) (execs (meetT.drop 0) env) _ _
  refine T_fr rfl ?_
  repeat nest_cls
  rename_i pl ll gl tt
  have P0 : MF l r ll gl (up (up f "late" (.ref ll)) "given" (.ref gl)) := ⟨up_ne rfl (up_ne rfl P.1), up_ne rfl (up_ne rfl P.2), up_ne rfl up_eq, up_eq⟩
  generalize up (up f "late" (.ref ll)) "given" (.ref gl) = f0 at P0 ⊢
  refine T_fr rfl ?_
  repeat nest_cls
  refine T_iter_range (by tb_rel) (range_small (by decide) (by decide) (by decide) (by decide)) fun it => ?_
  rw [range_size (by decide)]
  refine Tc_pick (L' := (it, rngIter 0 (16 - 0)) :: (F, .nf f0) :: (pl, .ls []) :: (ll, .ls []) :: (gl, .ls []) :: (c, .ce (some (.ref pl))) :: L) (by kct_strs) ?_
  refine Tc_for_range (InvM ((c, .ce (some (.ref pl))) :: L) F l r pl ll gl xs ys) (fun ι ι => rfl) ?turn ?ne ?fin (x := 0) .head (by decide) (.mk 0 P0 .nil .nil .nil)
  case ne => exact fun ι I => by cases I; exact List.cons_ne_nil _ _
  case turn =>
    intro ia X x tx L' hx16 I
    cases I with | @mk f pv lv gv k P hp hl hg =>
    have q := meet_len xs ys k
    have hk : k ≤ 16 := Int.ofNat_le.mp (Int.le_of_lt hx16)
    have w1 : ∀ {z : Nat}, z ≤ k → z ≤ 20 := fun h => Nat.le_trans h (Nat.le_trans hk (by decide))
    refine T_assignName (T_stf E M5 (.tail .head) ?_)
    refine T_pick (L' := (F, .nf (up f "hue" (.int (k : Int) tx))) :: (pl, .ls pv) :: (ll, .ls lv) :: (gl, .ls gv) :: (ia, X) :: (c, .ce (some (.ref pl))) :: L) (.cons .head (.cons R1 (.cons R1 (.cons R1 .refl)))) ?_
    refine m_0 E P.hue.2.1 up_eq M3 (J1 (J1 (J1 (J1 hml)))) hx hp (w1 q.1) fun pw hpw => ?_
    refine m_1 E P.hue.1 up_eq P.hue.2.2.1 P.hue.2.2.2 M1 (J1 (J1 hmr)) hy hpw hl hg ⟨Nat.le_trans (meetA_len q.1) (Nat.le_trans (Nat.succ_le_succ hk) (by decide)), w1 q.2.1, w1 q.2.2⟩ fun pw2 lw gw h1 h2 h3 => ?_
    rw [← meetTo_B] at h1 h2 h3
    exact loop_next ⟨_, .cons R4 (.cons .head (.cons .head (.cons .head (.cons .head .refl)))), .mk (k + 1) P.hue h1 h2 h3⟩
  case fin =>
    intro L' I
    generalize e16 : (16 : Int) = x at I
    cases I with | @mk f pv lv gv k P hp hl hg =>
    have ek : k = 16 := (Int.ofNat_inj.mp e16).symm
    subst ek
    have q := meet_len xs ys 16
    have w1 : ∀ {z : Nat}, z ≤ 16 → z ≤ 20 := fun h => Nat.le_trans h (by decide)
    refine T_nil (T_pick (L' := (F, .nf f) :: (pl, .ls pv) :: (gl, .ls gv) :: (ll, .ls lv) :: (c, .ce (some (.ref pl))) :: L) (.cons .head (.cons .head (.cons R1 .refl))) ?_)
    refine m_2 E P.2.2.1 P.2.2.2 M1 (.head _) hp hl hg ⟨w1 q.1, w1 q.2.1, w1 q.2.2⟩ hlate fun pw av h1 h2 => ?_
    refine m_3 O E (up_ne rfl P.1) (up_ne rfl P.2.2.1) up_eq M3 (J1 (J1 (J1 (J1 hmr)))) M2 M1 (.head _) hy h1 hl (intsAre_append hg h2) ⟨by rw [List.length_take]; exact Nat.le_trans (Nat.min_le_right _ _) (w1 q.1), w1 q.2.1, by rw [List.length_append, List.length_reverse, List.length_drop]; exact Nat.le_trans (Nat.add_le_add q.2.2 (Nat.le_trans (Nat.sub_le _ _) q.1)) (by decide)⟩ hlen fun t g qq gv' gs qv qs k i1 j1 i3 j3 i2 j2 => ?_
    exact ⟨_, .cons .head (.cons .head (.cons .head (.skip (.skip (.skip (.skip (.skip .refl))))))), h _ _ _ _ _ _ _ _ i1 j1 i3 j3 (i2.trans (List.Perm.append_left _ (List.reverse_perm _))) j2⟩
end
section
variable {B : Bg} {n : Nat} {L L' L₁ : Led} {env : Env} {t u : Tok} {d : Addr} {pos : Pos} {ks : List (Str × NameKind)} {F : Addr} {cl : List (Str × Addr)}
theorem T_sdefE (O : Our B) (f : Addr) (more : List Str) (ks : List (Str × NameKind)) {oc : Value} {od : Option Addr} {osl : Array (Option Value)} {fd : FuncData} {body : List Stmt} {args : List Value} {kw : List (Str × Value)} {Q : Value → Led → Prop}
    (hget : (KK B.w.params).lookup f = some ⟨oc, od, .func fd, osl⟩) (hc : codeIn (KK B.w.params) fd.code fd.qualname = true) (hbody : fd.body = .stmts body)
    (hcell : (fd.scope.names.all fun x => x.2 != .cell) = true)
    (hks : (ks.all fun p => fd.scope.names.lookup p.1 == some p.2 && !(p.1 == ("__debug__" : Str)) && !(p.1 == ("__classdict__" : Str))) = true) (hcn : fd.closure = [])
    (hg : fd.globals = mainGlobals) (hbi : fd.builtins = builtinsNs)
    (hco : fd.scope.isCoroutine = false) (hgen : fd.scope.isGenerator = false) (hk : fd.scope.kind = .function)
    (h : T B n (bindArgs fd ⟨args, kw⟩) L fun binds L₁ => (binds.all fun x => fd.scope.names.lookup x.1 == some .local) = true ∧ decide ((frame0 binds more).map (·.1)).Nodup = true ∧
      ∀ F env, EnvIs env ks F [] → T B n (execs body env) ((F, .ns (frame0 binds more)) :: L₁) fun fl L' => Q (retOf fl) L') : T B (n + 1) (call (.ref f) args kw) L Q := by
  have e := O.get hget
  refine T_defE more ks (fun s S => S.keep _ _ e (notTab_fn e rfl)) rfl (fun s S => S.code (codeRec_of B.inK (by rw [O.K]; exact hc))) hbody hcell hks (by rw [hcn]; exact List.nodup_nil) hg hbi hco hgen hk ?_
  rw [hcn]
  exact h
theorem T_eqv {α : Type} {m m' : Sem α} {Q : α → Led → Prop} (e : m = m') (h : T B n m' L Q) : T B n m L Q := e ▸ h
theorem T_addrBind {α : Type} {Q : α → Led → Prop} {o : Obj} {k : Addr → Sem α} {it : It} (hi : ∀ (h : Heap) a, h.get? a = some o → it.At h a) (hf : o.isFreed = false) (h : ∀ a, (a == sysModules) = false → T B n (k a) ((a, it) :: L) Q) : T B n (alloc o >>= k) L Q := T_bind (T_allocM hi hf h)
end
theorem valueAt_stored (k : Str) (v : Value) (k' : Str) : ∀ kvs : List (Str × Value), (kvs.map (·.1)).Nodup → valueAt (stored kvs k v) k' = if k' = k then some v else valueAt kvs k' := by
  intro kvs nd
  unfold stored
  by_cases h : kvs.any (fun kv => decide (kv.1 = k)) = true
  · rw [if_pos h]
    induction kvs with
    | nil => simp at h
    | cons p r ih =>
      obtain ⟨a, b⟩ := p
      simp only [List.map_cons, List.nodup_cons] at nd
      unfold valueAt
      rw [List.map_cons]
      by_cases e : a = k
      · subst e
        rw [if_pos rfl]
        by_cases e2 : k' = a
        · subst e2; simp
        · have e3 : ¬ a = k' := fun z => e2 z.symm
          rw [if_neg e2]
          have hr : r.map (fun kv => if kv.1 = a then (kv.1, v) else kv) = r := by
            refine (List.map_congr_left fun x hx => ?_).trans (List.map_id r)
            rw [if_neg]; rfl
            intro z; exact nd.1 (z ▸ List.mem_map_of_mem hx)
          rw [hr]
          simp [e3]
      · rw [if_neg e]
        have h' : r.any (fun kv => decide (kv.1 = k)) = true := by simpa [e] using h
        have := ih nd.2 h'
        unfold valueAt at this
        by_cases e2 : a = k'
        · subst e2
          rw [if_neg e]; simp
        · simp only [List.find?_cons, e2, decide_false]
          exact this
  · rw [if_neg h]
    have hno : ∀ p ∈ kvs, p.1 ≠ k := fun p hp z => h (List.any_eq_true.mpr ⟨p, hp, by simpa using z⟩)
    unfold valueAt
    rw [List.find?_append]
    by_cases e : k' = k
    · subst e
      rw [if_pos rfl]
      have : kvs.find? (fun kv => decide (kv.1 = k')) = none := List.find?_eq_none.mpr fun p hp => by simpa using hno p hp
      rw [this]; simp
    · rw [if_neg e]
      have e3 : ¬ k = k' := fun z => e z.symm
      simp [e3]
theorem stored_nodup (k : Str) (v : Value) (kvs : List (Str × Value)) (nd : (kvs.map (·.1)).Nodup) : ((stored kvs k v).map (·.1)).Nodup := by
  unfold stored
  by_cases h : kvs.any (fun kv => decide (kv.1 = k)) = true
  · rw [if_pos h, List.map_map]
    have : ((fun kv : Str × Value => kv.1) ∘ fun kv => if kv.1 = k then (kv.1, v) else kv) = fun kv => kv.1 := funext fun kv => by
      show (if kv.1 = k then (kv.1, v) else kv).1 = kv.1
      split <;> rfl
    rw [this]; exact nd
  · rw [if_neg h, List.map_append]
    refine List.nodup_append.mpr ⟨nd, by simp, fun a ha b hb => ?_⟩
    obtain ⟨p, hp, rfl⟩ := List.mem_map.mp ha
    simp at hb
    subst hb
    intro z
    exact h (List.any_eq_true.mpr ⟨p, hp, by simpa using z⟩)
theorem stored_mem {k : Str} {v : Value} {kvs : List (Str × Value)} {p : Str × Value} (h : p ∈ stored kvs k v) : p.2 = v ∨ p ∈ kvs := by
  unfold stored at h
  split at h
  · obtain ⟨q, hq, rfl⟩ := List.mem_map.mp h
    split
    · exact .inl rfl
    · exact .inr hq
  · rcases List.mem_append.mp h with h | h
    · exact .inr h
    · simp at h; subst h; exact .inl rfl
set_option tactic.hygienic true in
theorem stored_ne {k : Str} {v : Value} {kvs : List (Str × Value)} : stored kvs k v ≠ [] := by
  unfold stored
  split
  · rename_i h
    intro z
    have : kvs = [] := List.map_eq_nil_iff.mp z
    subst this
    simp at h
  · simp
section
variable {B : Bg} {n : Nat} {L L' L₁ : Led} {env : Env} {t u : Tok} {d : Addr} {pos : Pos}
theorem T_AndV {l r : Expr} {Q : Value → Led → Prop} (h : T B n (eval l env) L fun v L₁ => T B n (truthy v) L₁ fun b L₂ => (b = true → T B n (eval r env) L₂ Q) ∧ (b = false → Q v L₂)) : T B n (eval (.BoolOp .And [l, r] pos) env) L Q := by
  rw [arm_eval_BoolOp]
  show T B n (eval l env >>= _) L Q
  refine T_bind (T_mono h fun v L₁ h1 => T_bind (T_standAt (T_bind (T_holding (T_mono h1 fun b L₂ h2 => ?_)))))
  cases b with
  | true => exact h2.1 rfl
  | false => exact T_pure (h2.2 rfl)
theorem ty_tup {a : Addr} {vs : List Value} (h : (a, tup vs) ∈ L) : TyIs B L (.ref a) "tuple" := fun s S => ⟨_, S.its _ h, rfl⟩
theorem T_item_tup {l : Addr} {vs : List Value} {k : Int} {t : Tok} {y : Value} {value slice : Expr} {Q : Value → Led → Prop} (hm : (l, tup vs) ∈ L) (h0 : 0 ≤ k) (hz : k < 2 ^ 63) (hx : vs[k.toNat]? = some y) (hs : subscripted slice false (.ref l) (.int k t) = operate [.ref l, .int k t] (getItem (.ref l) (.int k t))) (h : Q y L) :
    T B n (subscriptTail value slice (.ref l) (.int k t)) L Q := T_tail (ty_tup hm) PySem.F.slot_tuple_getitem.lookup hs fun A hA s S => by
  have ht : IsTup s.heap l vs.toArray := ⟨_, S.its _ hm, rfl, _, rfl⟩
  have hlt : k.toNat < vs.length := (List.getElem?_eq_some_iff.mp hx).1
  exact getItem_tuple (j := k.toNat) ht (by omega) (by omega) (by simp [PySem.seqIndex?]; omega) (by simpa using hx) ⟨L, S, h⟩
theorem T_hide {α : Type} {m : Sem α} {f : Addr} {fo : Obj} {cd : Value} {q : Str} {R : Led} {Q : α → Led → Prop} (P : Obj → Prop) (hp : P fo) (h : ∀ fo, P fo → T B n m ((f, .fn fo cd q) :: R) Q) : T B n m ((f, .fn fo cd q) :: R) Q := h fo hp
set_option tactic.hygienic true in
theorem bits_small {a : Int} (h : a.natAbs < 1000000) : Builtin.Int.intBits a ≤ 64 := by
  unfold Builtin.Int.intBits
  split
  · omega
  · rename_i hz
    have hne : a.natAbs ≠ 0 := fun z => hz (by simp [Int.natAbs_eq_zero.mp z])
    have : a.natAbs.log2 < 20 := (Nat.log2_lt hne).mpr (by omega)
    omega
theorem T_mulS {a b : Int} {t u : Tok} {Q : Value → Led → Prop} (hs : a.natAbs < 1000000) (h : ∀ k, Q (.int (a * b) k) L) : T B n (binaryOp .Mult (.int a t) (.int b u)) L Q := T_mul (IntMulOk.of_left (bits_small hs)) h
end
theorem tuple_lt3 (l b : Addr) (d1 d2 q1 q2 : Int) (s1 s2 : Str) (t1 t2 t3 u1 u2 u3 : Tok) (he : d1 = d2 → q1 = q2 ∧ s1 = s2) :
    Meets (Builtin.«tuple.__lt__» ⟨[.ref l, .ref b], []⟩)
      (fun A R s => s.heap.get? l = some { cls := .type "tuple", data := .seq #[.int d1 t1, .int q1 t2, .str s1 t3] } ∧ s.heap.get? b = some { cls := .type "tuple", data := .seq #[.int d2 u1, .int q2 u2, .str s2 u3] } ∧
        R (.ok (.ret (.bool (decide (d1 < d2))))) s) :=
  .of_wp fun prog w A R s h => by
    obtain ⟨hp, g, d, tk, os⟩ := s; obtain ⟨hl, hb, h⟩ := h
    have f2 := AutoSeq1.sub_tuple_tuple
    unfold Builtin.«tuple.__lt__»
    show wpAny _ _ (isInstance (.ref b) (.type "tuple") >>= _) _ _ _
    refine wpAny_bind (wpAny_isInstance (T := "tuple") ⟨_, hb, rfl⟩ f2 ?_)
    show wpAny _ _ (Builtin.Tuple.tupleItemsOf (.ref l) >>= _) _ _ _
    unfold Builtin.Tuple.tupleItemsOf
    refine wpAny_bind (wpAny_bind (wpAny_seqItems hl rfl (wpAny_pure ?_)))
    refine wpAny_bind (wpAny_bind (wpAny_seqItems hb rfl (wpAny_pure ?_)))
    show wpAny _ _ (forIn [(Value.int d1 t1, Value.int d2 u1), (Value.int q1 t2, Value.int q2 u2), (Value.str s1 t3, Value.str s2 u3)] _ _ >>= _) _ _ _
    rw [List.forIn_cons]
    dsimp only
    refine wpAny_bind (wpAny_bind (wpAny_bind (wpAny_eqBool_int ?_)))
    by_cases hd : d1 = d2
    · obtain ⟨hq, hs⟩ := he hd
      subst hd hq hs
      rw [if_neg (by simp)]
      refine wpAny_pure ?_
      dsimp only
      rw [List.forIn_cons]
      dsimp only
      refine wpAny_bind (wpAny_bind (wpAny_eqBool_int ?_))
      rw [if_neg (by simp)]
      refine wpAny_pure ?_
      dsimp only
      rw [List.forIn_cons]
      dsimp only
      refine wpAny_bind (wpAny_bind (wpAny_eqBool_str ?_))
      rw [if_neg (by simp)]
      refine wpAny_pure ?_
      dsimp only
      rw [List.forIn_nil]
      refine wpAny_pure ?_
      dsimp only
      have e : decide (d1 < d1) = false := by simp
      rw [e] at h
      exact wpAny_pure ⟨_, rfl, h⟩
    · rw [if_pos (by simp [hd])]
      refine wpAny_bind (wpAny_rule (wpAny_bind ?_))
      show wpAny _ _ (compareOp .Lt (.int d1 t1) (.int d2 u1)) _ _ _
      refine P.lt_int ?_
      exact wpAny_bind (wpAny_pure (wpAny_pure (wpAny_pure (wpAny_pure ⟨_, rfl, h⟩))))
section
variable {B : Bg} {n : Nat} {L L' L₁ : Led} {env : Env} {t u : Tok} {d : Addr} {pos : Pos}
noncomputable abbrev tri3 (x : Int × Int × Str) (t1 t2 t3 : Tok) : It := tup [.int x.1 t1, .int x.2.1 t2, .str x.2.2 t3]
theorem T_ltTup {a b : Addr} {x y : Int × Int × Str} {t1 t2 t3 u1 u2 u3 : Tok} {Q : Value → Led → Prop} (ha : (a, tri3 x t1 t2 t3) ∈ L) (hb : (b, tri3 y u1 u2 u3) ∈ L) (he : x.1 = y.1 → x = y) (h : Q (.bool (decide (x.1 < y.1))) L) : T B n (richCompare .Lt (.ref a) (.ref b)) L Q := fun A hA s S => by
  have g1 : s.heap.get? a = some { cls := .type "tuple", data := .seq #[.int x.1 t1, .int x.2.1 t2, .str x.2.2 t3] } := S.its _ ha
  have g2 : s.heap.get? b = some { cls := .type "tuple", data := .seq #[.int y.1 u1, .int y.2.1 u2, .str y.2.2 u3] } := S.its _ hb
  refine richCompare_meets_room (op := .Lt) ⟨_, g1, rfl⟩ ⟨_, g2, rfl⟩ PySem.F.slot_tuple_lt PySem.F.entry_tuple_lt (PySem.F.args_tuple_lt_2 _ _) (tuple_lt3 a b x.1 y.1 x.2.1 y.2.1 x.2.2 y.2.2 t1 t2 t3 u1 u2 u3 fun e => by have := he e; subst this; exact ⟨rfl, rfl⟩) ⟨g1, g2, ?_⟩ (by have := hA.2.2; omega)
  exact ⟨fun z => (nomatch z), L, S, h⟩
theorem T_letGo {vs ws : List Value} {Q : Unit → Led → Prop} (h : Q () L) : T B n (letGo vs ws) L Q := fun A hA s S => wpAny_letGo ⟨L, S, h⟩
structure Tris (L : Led) (vs : List Value) (xs : List (Int × Int × Str)) : Prop where
  len : vs.length = xs.length
  at_ : ∀ (i : Nat) (x : Int × Int × Str), xs[i]? = some x → ∃ a t1 t2 t3, vs[i]? = some (.ref a) ∧ (a, tri3 x t1 t2 t3) ∈ L
  one : ∀ x ∈ xs, ∀ y ∈ xs, x.1 = y.1 → x = y
theorem T_upd2 {S : Addr} {vs ws : List Value} {f : Array Value → Array Value} {Q : Unit → Led → Prop} (hr : Rem (S, .ls vs) L L₁) (hf : f vs.toArray = ws.toArray) (hz : vs.length ≤ 1000) (hw : ws.length ≤ 1000) (h : Q () ((S, .ls ws) :: L₁)) : T B n (updateSeq S f) L Q := fun A hA s St => by
  have S₁ := St.rem hr
  obtain ⟨k, e⟩ := S₁.its _ (.head _)
  refine wpAny_updateSeq e rfl ?_ (szl (by simpa using hz)) (by rw [hf]; simp; exact Nat.le_succ_of_le (szl hw))
  exact ⟨_, S₁.mapList hf, h⟩
noncomputable def Best (xs : List (Int × Int × Str)) (j b : Nat) : Prop := b < j ∧ ∃ x, xs[b]? = some x ∧ (∀ i y, i < j → xs[i]? = some y → x.1 ≤ y.1) ∧ ∀ i y, i < b → xs[i]? = some y → x.1 < y.1
theorem Tc_minLoop {l it S : Addr} {vs : List Value} {xs : List (Int × Int × Str)} {Q : Value → Led → Prop} (hm : (l, .ls vs) ∈ L) (hw : Tris L vs xs) (h : ∀ b v, Best xs xs.length b → vs[b]? = some v → Q v L) :
    ∀ (k j b : Nat) (vb : Value), xs.length - j = k → j ≤ xs.length → Best xs j b → vs[b]? = some vb → Tc B (n + 2) (.builtin "min.loop" ⟨[.ref it, .none, .ref S], []⟩) ((it, lsIter l j) :: (S, .ls [vb, vb]) :: L) (RetQ Q) := by
  have hname : (toString "min" ++ toString ".loop" : String) = "min.loop" := by decide
  intro k
  induction k with
  | zero =>
    intro j b vb hk hj hb hv
    have hje : j = xs.length := by omega
    subst hje
    refine Tc_builtin PySem.F.plain_min_loop PySem.F.entry_min_loop ?_
    show T B (n + 1) (seqItems? (.ref S) >>= _) _ _
    refine T_bind (T_items (.tail _ (.head _)) ?_)
    show T B (n + 1) (tryCatch (pyNext (.ref it)) _ >>= _) _ _
    refine T_bind (T_tryC (T_end_ls .head (.tail _ hm) (by rw [List.getElem?_eq_none]; rw [hw.len]; exact Nat.le_refl _) ?_))
    show T B (n + 1) (updateSeq S (fun ι => #[]) >>= _) _ _
    refine T_bind (T_upd2 (ws := []) .head rfl (by simp) (by simp) ?_)
    refine T_bind (T_letGo ?_)
    exact T_pick (.skip .refl) (T_ret (h b vb hb hv))
  | succ k ih =>
    intro j b vb hk hj hb hv
    have hlt : j < xs.length := by omega
    obtain ⟨hbj, x, hx, hmin, hfst⟩ := hb
    obtain ⟨ab, c1, c2, c3, ev, mb⟩ := hw.at_ b x hx
    have evb : vb = .ref ab := Option.some.inj (hv.symm.trans ev)
    subst evb
    obtain ⟨aj, e1, e2, e3, ew, mj⟩ := hw.at_ j xs[j] (List.getElem?_eq_getElem hlt)
    refine Tc_builtin PySem.F.plain_min_loop PySem.F.entry_min_loop ?_
    show T B (n + 1) (seqItems? (.ref S) >>= _) _ _
    refine T_bind (T_items (.tail _ (.head _)) ?_)
    show T B (n + 1) (tryCatch (pyNext (.ref it)) _ >>= _) _ _
    refine T_bind (T_tryC (T_next_ls .head (.tail _ hm) ew ?_))
    show T B (n + 1) (tryCatch (holding [Value.ref aj, .ref aj] (richCompare .Lt (.ref aj) (.ref ab) >>= _)) _ >>= _) _ _
    have hone : xs[j].1 = x.1 → xs[j] = x := hw.one _ (List.getElem_mem hlt) _ (List.mem_of_getElem? hx)
    refine T_bind (T_tryC (T_holding (T_bind (T_ltTup (.tail _ (.tail _ mj)) (.tail _ (.tail _ mb)) hone ?_))))
    refine T_bind (T_holding (T_t_bool ?_))
    refine T_bind (T_letGo (T_pure ?_))
    by_cases hc : xs[j].1 < x.1
    · rw [decide_eq_true hc]
      dsimp only
      rw [if_pos rfl]
      refine T_bind (T_upd2 (ws := [.ref aj, .ref aj]) (.tail .head) rfl (Nat.le_of_ble_eq_true rfl) (Nat.le_of_ble_eq_true rfl) (T_bind (T_letGo ?_)))
      rw [hname]
      refine T_again (plainId_quiet PySem.F.plain_min_loop _) (Tc_pick (L' := (it, lsIter l (j + 1)) :: (S, .ls [.ref aj, .ref aj]) :: L) (.cons (.tail .head) .refl) (ih (j + 1) j _ (by omega) hlt ⟨by omega, xs[j], List.getElem?_eq_getElem hlt, fun i y hi hy => ?_, fun i y hi hy => ?_⟩ ew))
      · by_cases hij : i < j
        · have := hmin i y hij hy; omega
        · have : i = j := by omega
          subst this
          rw [List.getElem?_eq_getElem hlt] at hy
          cases hy
          exact Int.le_refl _
      · have := hmin i y hi hy; omega
    · rw [decide_eq_false hc]
      dsimp only
      rw [if_neg Bool.false_ne_true]
      refine T_bind (T_letGo ?_)
      rw [hname]
      refine T_again (plainId_quiet PySem.F.plain_min_loop _) (ih (j + 1) b _ (by omega) hlt ⟨by omega, x, hx, fun i y hi hy => ?_, hfst⟩ hv)
      by_cases hij : i < j
      · exact hmin i y hij hy
      · have : i = j := by omega
        subst this
        rw [List.getElem?_eq_getElem hlt] at hy
        cases hy
        omega
theorem T_minTup {l : Addr} {vs : List Value} {xs : List (Int × Int × Str)} {Q : Value → Led → Prop} (hm : (l, .ls vs) ∈ L) (hw : Tris L vs xs) (hne : xs ≠ []) (h : ∀ b v, Best xs xs.length b → vs[b]? = some v → Q v L) : T B (n + 3) (call (.builtin "min") [.ref l] []) L Q := by
  have hname : (toString "min" ++ toString ".loop" : String) = "min.loop" := by decide
  refine T_fun PySem.F.kind_min PySem.F.plain_min PySem.F.entry_min (PySem.F.args_min1 _) ?_
  show T B (n + 2) (Builtin.Builtins.bindParams "min" ["key", "default"] 0 ⟨[], []⟩ >>= _) _ _
  refine T_bind (T_eqv (show Builtin.Builtins.bindParams "min" ["key", "default"] 0 ⟨[], []⟩ = pure [none, none] from rfl) (T_pure ?_))
  refine T_bind (T_pure ?_)
  refine T_bind (T_iter_ls hm fun it => ?_)
  refine T_bind (T_newList (Nat.zero_le _) fun S => ?_)
  rw [hname]
  refine T_again (plainId_quiet PySem.F.plain_min_loop _) ?_
  have hpos : 0 < xs.length := List.length_pos_iff.mpr hne
  obtain ⟨a0, c1, c2, c3, e0, m0⟩ := hw.at_ 0 xs[0] (List.getElem?_eq_getElem hpos)
  refine Tc_builtin PySem.F.plain_min_loop PySem.F.entry_min_loop ?_
  show T B (n + 2) (seqItems? (.ref S) >>= _) _ _
  refine T_bind (T_items (.head _) ?_)
  show T B (n + 2) (tryCatch (pyNext (.ref it)) _ >>= _) _ _
  refine T_bind (T_tryC (T_next_ls (.tail .head) (.tail _ hm) e0 ?_))
  show T B (n + 2) (updateSeq S (fun ι => #[.ref a0, .ref a0]) >>= _) _ _
  refine T_bind (T_upd2 (ws := [.ref a0, .ref a0]) (.tail .head) rfl (Nat.zero_le _) (Nat.le_of_ble_eq_true rfl) ?_)
  rw [hname]
  refine T_again (plainId_quiet PySem.F.plain_min_loop _) (Tc_pick (L' := (it, lsIter l 1) :: (S, .ls [.ref a0, .ref a0]) :: L) (.cons (.tail .head) .refl) (Tc_minLoop hm hw h (xs.length - 1) 1 0 _ rfl hpos ⟨by omega, xs[0], List.getElem?_eq_getElem hpos, fun i y hi hy => ?_, fun i y hi hy => absurd hi (Nat.not_lt_zero _)⟩ e0))
  have : i = 0 := by omega
  subst this
  rw [List.getElem?_eq_getElem hpos] at hy
  cases hy
  exact Int.le_refl _
end
section
variable {B : Bg} {n : Nat} {L L' L₁ : Led} {Q : Value → Led → Prop} {a b : Int} {t u : Tok} {x dx p : Addr} {o : Obj} {m : List (Str × Option Value)} {vs : List Value}
theorem c_push (O : Our B) {s : Str} (ho : InstOb o 153 dx) (hne : dx ≠ x) (hv : m.lookup ("pushback" : Str) = some (some (Value.ref p))) (hr : Rem (p, It.ls vs) L L₁) (hx : (x, It.ob o) ∈ L₁) (hd : (dx, dn m) ∈ L₁) (hz : vs.length ≤ 100)
    (h : Q .none ((p, .ls (vs ++ [.str s t])) :: L₁)) : T B (n + 3) (call (.ref 150) [.ref x, .str s t] []) L Q := by
  refine T_rem hr ?_
  refine T_weak ?_
  refine T_sdef O 150 [("self", .ref x), ("token", .str s t)] [] [("self", .local), ("token", .local)] [("token", some (.str s t)), ("self", some (.ref x))]
    rfl (by kernel_rfl) rfl rfl (by decide) (by rfl) (by decide) rfl (by rfl) rfl rfl rfl rfl rfl rfl ?_
  intro F env E hcode hqual
  clear hcode hqual
  repeat nest_cls
  try refine T_Attribute rfl ?_
  repeat nest_cls
  refine T_ga (cls153 O) (by tb_rel) (by tb_rel) ho hne hv mN_pushback ob_none4 rfl ?_
  repeat nest_cls
  refine T_append (by tb_start) (szl (by omega)) ?_
  repeat nest_cls
  exact ⟨_, by kct_strs, h⟩
theorem c_get1 (O : Our B) {v : Value} (ho : InstOb o 153 dx) (hne : dx ≠ x) (hv : m.lookup ("pushback" : Str) = some (some (Value.ref p))) (hr : Rem (p, It.ls (v :: vs)) L L₁) (hx : (x, It.ob o) ∈ L₁) (hd : (dx, dn m) ∈ L₁) (hz : vs.length ≤ 100)
    (h : Q v ((p, .ls vs) :: L₁)) : T B (n + 3) (call (.ref 143) [.ref x] []) L Q := by
  refine T_rem hr ?_
  refine T_weak ?_
  refine T_sdef O 143 [("self", .ref x)] ["token", "fiter", "ch"] [("self", .local), ("token", .local), ("fiter", .local), ("ch", .local), ("iter", .globalImplicit)] [("self", some (.ref x)), ("token", none), ("fiter", none), ("ch", none)]
    rfl (by kernel_rfl) rfl rfl (by decide) (by rfl) (by decide) rfl (by rfl) rfl rfl rfl rfl rfl rfl ?_
  intro F env E hcode hqual
  clear hcode hqual
  repeat nest_cls
  try refine T_Attribute rfl ?_
  repeat nest_cls
  refine T_ga (cls153 O) (by tb_rel) (by tb_rel) ho hne hv mN_pushback ob_none4 rfl ?_
  repeat nest_cls
  refine T_t_ls (by tb_rel) (by simp; omega) ?_
  refine D_yes (by simp) ?_
  repeat nest_cls
  try refine T_Attribute rfl ?_
  repeat nest_cls
  refine T_ga (cls153 O) (by tb_rel) (by tb_rel) ho hne hv mN_pushback ob_none4 rfl ?_
  repeat nest_cls
  refine T_popAt (k := 0) (by tb_start) rfl rfl (szl (by simp; omega)) ?_
  repeat nest_cls
  rw [show (v :: vs).eraseIdx 0 = vs from rfl]
  exact ⟨_, by kct_strs, h⟩
end
section
variable {B : Bg} {n : Nat} {L L' L₁ : Led} {env : Env} {t u : Tok} {d x dx : Addr} {pos : Pos} {o : Obj} {m : List (Str × Option Value)}
theorem kp_143 (O : Our B) : Kp B L (.ref 143) := kp_fn (O.get (a := 143) rfl) rfl
theorem kp_150 (O : Our B) : Kp B L (.ref 150) := kp_fn (O.get (a := 150) rfl) rfl
theorem cal_get (O : Our B) (hx : (x, .ob o) ∈ L) (hd : (dx, dn m) ∈ L) (ho : InstOb o 153 dx) (hne : dx ≠ x) (hsh : (m.lookup ("get_token" : Str)).join = none) : Cal B env L (.ref x) "get_token" (.ref 143) [.ref x] :=
  cal_inst (cls153 O) hx hd ho hne mN_get (O.get (a := 143) rfl) (notTab_fn (O.get (a := 143) rfl) rfl) rfl ob_none6 hsh
theorem cal_push (O : Our B) (hx : (x, .ob o) ∈ L) (hd : (dx, dn m) ∈ L) (ho : InstOb o 153 dx) (hne : dx ≠ x) (hsh : (m.lookup ("push_token" : Str)).join = none) : Cal B env L (.ref x) "push_token" (.ref 150) [.ref x] :=
  cal_inst (cls153 O) hx hd ho hne mN_push (O.get (a := 150) rfl) (notTab_fn (O.get (a := 150) rfl) rfl) rfl ob_none7 hsh
theorem T_nePair {a b : Addr} {s1 s2 : Str} {i1 i2 : Int} {t1 t2 u1 u2 : Tok} {Q : Value → Led → Prop} (ha : (a, .ls [.str s1 t1, .int i1 t2]) ∈ L) (hb : (b, .ls [.str s2 u1, .int i2 u2]) ∈ L) (h1 : PyData.strOk s1 = true) (h2 : PyData.strOk s2 = true) (hn : 1 ≤ n)
    (h : Q (.bool (!(s1 == s2 && i1 == i2))) L) : T B n (compareOp .NotEq (.ref a) (.ref b)) L Q := by
  refine T_neData (d := .list [.str s1, .int i1]) (e := .list [.str s2, .int i2]) (rd_ls ha (rdAll_cons rd_str (rdAll_cons rd_int rdAll_nil))) (rd_ls hb (rdAll_cons rd_str (rdAll_cons rd_int rdAll_nil))) ?_ ?_ ?_ ?_
  · simp [PyData.canLay0, PyData.canLayAll0, h1]
  · simp [PyData.canLay0, PyData.canLayAll0, h2]
  · simp [PyData.depth, PyData.depthAll]; omega
  · have e : PyData.eqv (.list [.str s1, .int i1]) (.list [.str s2, .int i2]) = (s1 == s2 && i1 == i2) := by simp [PyData.eqv, PyData.eqvAll]
    rw [e]; exact h
theorem pick_app {tl R : Led} : Pick R (tl ++ R) := by
  induction tl with
  | nil => exact .refl
  | cons a tl ih => exact .skip ih
theorem Tris.mono {tl : Led} {vs : List Value} {xs : List (Int × Int × Str)} (h : Tris tl vs xs) (hs : ∀ p ∈ tl, p ∈ L) : Tris L vs xs :=
  ⟨h.len, fun i x e => let ⟨a, t1, t2, t3, e1, e2⟩ := h.at_ i x e; ⟨a, t1, t2, t3, e1, hs _ e2⟩, h.one⟩
theorem Tris.snoc {tl : Led} {vs : List Value} {xs : List (Int × Int × Str)} (h : Tris tl vs xs) {a : Addr} {x : Int × Int × Str} {t1 t2 t3 : Tok} (hx : ∀ y ∈ xs, y.1 = x.1 → y = x) : Tris ((a, tri3 x t1 t2 t3) :: tl) (vs ++ [.ref a]) (xs ++ [x]) := by
  refine ⟨by simp [h.len], fun i y e => ?_, fun y hy z hz e => ?_⟩
  · by_cases hi : i < xs.length
    · rw [List.getElem?_append_left hi] at e
      obtain ⟨b, u1, u2, u3, e1, e2⟩ := h.at_ i y e
      exact ⟨b, u1, u2, u3, by rw [List.getElem?_append_left (by rw [h.len]; exact hi)]; exact e1, .tail _ e2⟩
    · rw [List.getElem?_append_right (by omega)] at e
      have hi0 : i - xs.length = 0 := by
        cases hz : i - xs.length with
        | zero => rfl
        | succ k => rw [hz] at e; simp at e
      rw [hi0] at e
      simp at e
      subst e
      exact ⟨a, t1, t2, t3, by rw [List.getElem?_append_right (by rw [h.len]; omega), h.len, hi0]; rfl, .head _⟩
  · rcases List.mem_append.mp hy with h1 | h1 <;> rcases List.mem_append.mp hz with h2 | h2
    · exact h.one y h1 z h2 e
    · have e2 : z = x := by simpa using h2
      rw [e2] at e ⊢; exact hx y h1 e
    · have e2 : y = x := by simpa using h1
      rw [e2] at e ⊢; exact (hx z h2 e.symm).symm
    · have e1 : y = x := by simpa using h1
      have e2 : z = x := by simpa using h2
      rw [e1, e2]
theorem rem_app {q : Addr × It} {tl R : Led} : Rem q (tl ++ q :: R) (tl ++ R) := by
  induction tl with
  | nil => exact .head
  | cons a tl ih => exact .tail ih
theorem map_erase {α β : Type} (f : α → β) : ∀ (l : List α) (i : Nat), (l.map f).eraseIdx i = (l.eraseIdx i).map f
  | [], i => by simp
  | a :: l, 0 => rfl
  | a :: l, i + 1 => by
    show f a :: (l.map f).eraseIdx i = f a :: (l.eraseIdx i).map f
    rw [map_erase f l i]
end
theorem codeRec_but2 {h h' : Heap} {x y : Addr} {cd : Value} {q : Str} (r : h.CodeRec cd q) (hq : q ≠ "") (hx : ¬ isCodeRec h x) (hy : ¬ isCodeRec h y) (k : ∀ b o, b ≠ x → b ≠ y → h.get? b = some o → h'.get? b = some o) : h'.CodeRec cd q := by
  obtain ⟨c, o, vs, t, e, ho, hd, hv⟩ := r
  refine ⟨c, o, vs, t, e, k _ _ (fun z => hx ?_) (fun z => hy ?_) ho, hd, hv⟩
  · subst z
    exact ⟨o, vs, q, t, ho, hd, hv, hq⟩
  · subst z
    exact ⟨o, vs, q, t, ho, hd, hv, hq⟩
theorem It.At.but2 {h h' : Heap} {a x z : Addr} {it : It} (y : it.At h a) (hx : ¬ isCodeRec h x) (hz : ¬ isCodeRec h z) (k : ∀ b o, b ≠ x → b ≠ z → h.get? b = some o → h'.get? b = some o) (ne : a ≠ x) (ne2 : a ≠ z) : it.At h' a := by
  cases it with
  | ob o => exact k _ _ ne ne2 y
  | ns m =>
    obtain ⟨⟨o, es, ep, ho, r⟩, nd⟩ := y
    exact ⟨⟨o, es, ep, k _ _ ne ne2 ho, r⟩, nd⟩
  | nf f =>
    obtain ⟨o, es, ep, ho, r⟩ := y
    exact ⟨o, es, ep, k _ _ ne ne2 ho, r⟩
  | ls vs => obtain ⟨n, e⟩ := y; exact ⟨n, k _ _ ne ne2 e⟩
  | fn o cd q => exact ⟨k _ _ ne ne2 y.1, codeRec_but2 y.2.1 y.2.2 hx hz k, y.2.2⟩
  | ce v => obtain ⟨o, e, r⟩ := y; exact ⟨o, k _ _ ne ne2 e, r⟩
  | fl c v => obtain ⟨o, e, r⟩ := y; exact ⟨o, k _ _ ne ne2 e, r⟩
  | pr P => obtain ⟨o, e, r⟩ := y; exact ⟨o, k _ _ ne ne2 e, r⟩
section
variable {B : Bg} {n : Nat} {L L' L₁ L₂ : Led} {env : Env} {s : Shared} {a b : Int} {t u : Tok} {pos : Pos}
theorem St.ext2 {h' : Heap} {x y : Addr} {ix iy ix' iy' : It} {new : Led} (S : St B ((x, ix) :: (y, iy) :: L) s) (k : ∀ b o, b ≠ x → b ≠ y → s.heap.get? b = some o → h'.get? b = some o) (sx : ix.soft = true) (sy : iy.soft = true) (hx' : ix'.At h' x) (hy' : iy'.At h' y)
    (hn : ∀ p ∈ new, s.heap.get? p.1 = none ∧ p.2.At h' p.1) (hnd : (new.map (·.1)).Nodup) : St B (new ++ (x, ix') :: (y, iy') :: L) { s with heap := h' } := by
  have hcx := (S.its _ (.head _)).soft sx
  have hcy := (S.its _ (.tail _ (.head _))).soft sy
  have hlox := S.lo _ (.head _)
  have hloy := S.lo _ (.tail _ (.head _))
  have nd := List.nodup_cons.mp S.nd
  have nd2 := List.nodup_cons.mp nd.2
  have nin : ∀ p ∈ L, p.1 ≠ x ∧ p.1 ≠ y := fun p hp => ⟨fun z => nd.1 (List.mem_cons_of_mem _ (by
    show x ∈ L.map (·.1)
    rw [← z]; exact List.mem_map_of_mem hp)), fun z => nd2.1 (by
    show y ∈ L.map (·.1)
    rw [← z]; exact List.mem_map_of_mem hp)⟩
  have hold : ∀ b o, B.h0.get? b = some o → b ≠ x ∧ b ≠ y := fun b o e => ⟨fun z => (by
    subst z
    rw [show B.h0.get? b = none from hlox] at e; cases e), fun z => (by
    subst z
    rw [show B.h0.get? b = none from hloy] at e; cases e)⟩
  refine ⟨fun b o e n => k _ _ (hold b o e).1 (hold b o e).2 (S.keep b o e n), fun t ht => ?_, fun p hp => ?_, ?_, fun p hp => ?_, S.size, ?_, S.gens, S.os⟩
  · obtain ⟨ps, e, h1, h2⟩ := S.tab t ht
    exact ⟨ps, k _ _ (hold _ _ (B.tab t ht)).1 (hold _ _ (B.tab t ht)).2 e, h1, fun pos cv q => codeRec_but2 (h2 pos cv q) (B.tq t ht) hcx hcy k⟩
  · rcases List.mem_append.mp hp with hp | hp
    · exact (hn p hp).2
    · rcases List.mem_cons.mp hp with rfl | hp
      · exact hx'
      · rcases List.mem_cons.mp hp with rfl | hp
        · exact hy'
        · exact (S.its p (.tail _ (.tail _ hp))).but2 hcx hcy k (nin p hp).1 (nin p hp).2
  · rw [List.map_append]
    refine List.nodup_append.mpr ⟨hnd, S.nd, fun c hc d hd e => ?_⟩
    obtain ⟨p, hp, rfl⟩ := List.mem_map.mp hc
    subst e
    have : ∃ q ∈ ((x, ix) :: (y, iy) :: L), q.1 = p.1 := by
      obtain ⟨q, hq, e⟩ := List.mem_map.mp (show p.1 ∈ ((x, ix) :: (y, iy) :: L).map (·.1) from hd)
      exact ⟨q, hq, e⟩
    obtain ⟨q, hq, e⟩ := this
    exact (S.its q hq).present (e ▸ (hn p hp).1)
  · rcases List.mem_append.mp hp with hp | hp
    · exact S.old_none (hn p hp).1
    · rcases List.mem_cons.mp hp with rfl | hp
      · exact hlox
      · rcases List.mem_cons.mp hp with rfl | hp
        · exact hloy
        · exact S.lo p (.tail _ (.tail _ hp))
  · refine ⟨fun b o e => ?_, fun b o e => let ⟨o', ho'⟩ := S.old.there b o e; ⟨o', k _ _ (hold b o e).1 (hold b o e).2 ho'⟩⟩
    rcases S.old.old b o e with x | ⟨t, hc, vs, more, hv, x⟩ | ⟨rfl, hc, ⟨o', es, n, ho', r⟩, z⟩
    · exact .inl (k _ _ (hold b o e).1 (hold b o e).2 x)
    · exact .inr (.inl ⟨t, hc, vs, more, hv, k _ _ (hold b o e).1 (hold b o e).2 x⟩)
    · have e2 := k _ _ (hold _ o e).1 (hold _ o e).2 ho'
      exact .inr (.inr ⟨rfl, hc, ⟨o', es, n, e2, r⟩, fun key => by rw [OldK.staticOf_congr (e2.trans ho'.symm) key]; exact z key⟩)
noncomputable abbrev enumIt (i : Addr) (k : Int) (old : Value) : It := flds "enumerate" [.none, .bool false, .ref i, rawInt k, .none, old]
noncomputable abbrev enumOut (i : Addr) (k : Int) (item : Value) (a : Addr) : It := flds "enumerate" [rawInt a, .bool false, .ref i, rawInt k, .none, item]
noncomputable abbrev lsIt (l : Addr) (i : Nat) : It := .fl "list_iterator" [.ref l, .int i 0]
theorem lsIt_at {h : Heap} {i l : Addr} {k : Nat} : (lsIt l k).At h i ↔ h.IsListIter i l k := by
  constructor
  · rintro ⟨o, e, hc, hd⟩; exact ⟨o, e, hc, hd⟩
  · rintro ⟨o, e, hc, hd⟩; exact ⟨o, e, hc, hd⟩
theorem T_enum {l : Addr} {vs : List Value} {Q : Value → Led → Prop} (hm : (l, It.ls vs) ∈ L) (h : ∀ e i, Q (.ref e) ((e, enumIt i 0 .none) :: (i, lsIt l 0) :: L)) : T B n (call (.type "enumerate") [.ref l] []) L Q := fun A hA s S => by
  have hl := (show s.heap.PlainList l vs.toArray from S.its _ hm).isList
  refine call_enumerate_list hl fun h' he hit hz k => ?_
  refine ⟨_, S.addList (new := [(s.heap.objs.size + 1, enumIt s.heap.objs.size 0 .none), (s.heap.objs.size, lsIt l 0)]) k (by rw [hz]; omega) (fun p hp => ?_) (by simp), h _ _⟩
  rcases List.mem_cons.mp hp with rfl | hp
  · exact ⟨by simp, he⟩
  · rcases List.mem_cons.mp hp with rfl | hp
    · exact ⟨Nat.le_refl _, lsIt_at.mpr hit⟩
    · cases hp
theorem T_iter_enum {e i : Addr} {k : Int} {old : Value} {Q : Value → Led → Prop} (hm : (e, enumIt i k old) ∈ L) (h : Q (.ref e) L) : T B n (pyIter (.ref e)) L Q := fun A hA s S =>
  wpAny_pyIter_enum (S.its _ hm) ⟨L, S, h⟩
theorem ne_of_two {x y : Addr} {ix iy : It} (S : St B ((x, ix) :: (y, iy) :: L) s) : x ≠ y := fun z => (List.nodup_cons.mp S.nd).1 (by
  show x ∈ y :: L.map (·.1)
  rw [z]; exact .head _)
theorem T_next_enum {l e i : Addr} {k : Nat} {vs : List Value} {x old : Value} {Q : Option Value → Led → Prop} (hm : (l, It.ls vs) ∈ L) (hx : vs[k]? = some x)
    (h : ∀ p tk, Q (some (.ref p)) ((p, tup [.int k tk, x]) :: (e, enumOut i ((k : Int) + 1) x p) :: (i, lsIt l (k + 1)) :: L)) : T B n (pyNext (.ref e)) ((e, enumIt i k old) :: (i, lsIt l k) :: L) Q := fun A hA s S => by
  have hl := (show s.heap.PlainList l vs.toArray from S.its _ (.tail _ (.tail _ hm))).isList
  have he : IsEnum s.heap e i (k : Int) old := S.its _ (.head _)
  refine wpAny_pyNext_enum_item he (lsIt_at.mp (S.its _ (.tail _ (.head _)))) hl (by simpa using hx) (ne_of_two S) fun h' eo hit ht hz kp => ?_
  refine ⟨_, St.tp (S.ext2 (ix' := enumOut i ((k : Int) + 1) x s.heap.objs.size) (iy' := lsIt l (k + 1)) (new := [(s.heap.objs.size, tup [.int k s.toks, x])]) kp rfl rfl eo (lsIt_at.mpr hit) (fun p hp => ?_) (by simp)), h _ _⟩
  rcases List.mem_cons.mp hp with rfl | hp
  · exact ⟨Heap.get?_none_of_le (Nat.le_refl _), ht⟩
  · cases hp
theorem T_end_enum {l e i : Addr} {k : Nat} {vs : List Value} {old : Value} {Q : Option Value → Led → Prop} (hm : (l, It.ls vs) ∈ L) (hx : vs[k]? = none)
    (h : Q none ((e, enumIt i k old) :: L)) : T B n (pyNext (.ref e)) ((e, enumIt i k old) :: (i, lsIt l k) :: L) Q := fun A hA s S => by
  have hl := (show s.heap.PlainList l vs.toArray from S.its _ (.tail _ (.tail _ hm))).isList
  have he : IsEnum s.heap e i (k : Int) old := S.its _ (.head _)
  refine wpAny_pyNext_enum_end hA.1 he (lsIt_at.mp (S.its _ (.tail _ (.head _)))) hl (by simpa using hx) fun h' hs => ?_
  exact ⟨_, (S.perm (List.Perm.swap ..)).ext hs rfl (List.cons_ne_nil _ _), h⟩
theorem T_let_enum {elts : List Expr} {x1} {tp : Pos} {e i p : Addr} {k : Int} {x : Value} {Q : Unit → Led → Prop} (hr : Rem (e, enumOut i k x p) L L₁) (h : Q () ((e, enumIt i k x) :: L₁)) : T B n (letOwnedTupleGo (.Tuple elts x1 tp) (.ref e) (.ref p)) L Q := fun A hA s S => by
  have S₁ := S.rem hr
  exact wpAny_letOwnedTupleGo_enum (S₁.its _ (.head _)) fun h' he hs => ⟨_, S₁.upd (it' := enumIt i k x) hs rfl he, h⟩
theorem Tc_for_enum {elts : List Expr} {x1} {tp : Pos} {l e i : Addr} {vs : List Value} {body orelse : List Stmt} {Q : Flow → Led → Prop} (Inv : Nat → Led → Prop) (hl : ∀ k L, Inv k L → (l, It.ls vs) ∈ L)
    (turn : ∀ (p : Addr) (k : Nat) (tk : Tok) (x : Value) (X Y : It) (L : Led), vs[k]? = some x → Inv k L → T B n (assign (.Tuple elts x1 tp) env (.ref p)) ((p, tup [.int k tk, x]) :: (e, X) :: (i, Y) :: L) fun ι L₁ => T B n (execs body env) L₁ (LoopQ B Q fun L₂ => ∃ L₃, Pick ((e, X) :: (i, Y) :: L₃) L₂ ∧ Inv (k + 1) L₃))
    (fin : ∀ L, Inv vs.length L → T B n (execs orelse env) L Q) {L₀ : Led} (hr : Rem (e, enumIt i 0 .none) L L₁) (hr2 : Rem (i, lsIt l 0) L₁ L₀) (h : Inv 0 L₀) : Tc B n (.forLoop (.Tuple elts x1 tp) (.ref e) body orelse env) L Q := by
  refine Tc_pick (Pick.cons hr (Pick.cons hr2 .refl)) ?_
  refine Tc_for (fun k L => ∃ j old L₀, L = (e, enumIt i (j : Nat) old) :: (i, lsIt l j) :: L₀ ∧ k + j = vs.length ∧ Inv j L₀) ?_ vs.length ⟨0, .none, L₀, rfl, rfl, h⟩
  rintro k L' ⟨j, old, L₀, rfl, hk, hI⟩
  cases k with
  | zero =>
    have hj : j = vs.length := by omega
    refine T_end_enum (hl _ _ hI) (List.getElem?_eq_none (by omega)) ?_
    subst hj
    exact T_pick (.skip .refl) (fin _ hI)
  | succ k =>
    have hlt : j < vs.length := by omega
    refine T_next_enum (hl _ _ hI) (List.getElem?_eq_getElem hlt) fun p tk => ?_
    show T B n (letOwnedTupleGo (.Tuple elts x1 tp) (.ref e) (.ref p)) _ _
    refine T_let_enum (.tail .head) ?_
    refine T_pick (L' := (p, tup [.int j tk, vs[j]]) :: (e, enumIt i ((j : Int) + 1) vs[j]) :: (i, lsIt l (j + 1)) :: L₀) (Pick.cons (.tail .head) .refl) ?_
    refine T_mono (turn p j tk vs[j] _ _ L₀ (List.getElem?_eq_getElem hlt) hI) fun ι L₁ h1 => T_mono h1 fun f L₂ h2 => ?_
    have key : ∀ L₂, (∃ L₃, Pick ((e, enumIt i ((j : Int) + 1) vs[j]) :: (i, lsIt l (j + 1)) :: L₃) L₂ ∧ Inv (j + 1) L₃) → ∃ m L₅, m < k + 1 ∧ Pick L₅ L₂ ∧ ∃ j old L₀, L₅ = (e, enumIt i (j : Nat) old) :: (i, lsIt l j) :: L₀ ∧ m + j = vs.length ∧ Inv j L₀ := fun L₂ ⟨L₃, hp, hI'⟩ =>
      ⟨k, _, Nat.lt_succ_self _, hp, j + 1, vs[j], L₃, by push_cast; rfl, by omega, hI'⟩
    cases f with
    | next => exact key _ h2
    | cont => exact key _ h2
    | brk => exact h2
    | ret v => exact h2
theorem T_s_AugSub {o i value : Expr} {spos : Pos} {op : Operator} {rest : List Stmt} {Q : Flow → Led → Prop} (hi : ∀ a b c, augStore i a b c = (do holding [c, a, b] (setItem a b c); release [c, a, b] []; pure .next))
    (h : T B n (eval o env) L fun ov L₁ => T B n (eval i env) L₁ fun iv L₂ => T B n (getItem ov iv) L₂ fun old L₃ => T B n (eval value env) L₃ fun v L₄ => T B n (inplaceOp op old v) L₄ fun r L₅ => T B n (setItem ov iv r) L₅ fun ι L₆ => T B n (execs rest env) L₆ Q) :
    T B n (execs (.AugAssign (.Subscript o i spos) op value pos :: rest) env) L Q := by
  refine T_seq ?_
  rw [arm_exec_AugAssign_3]
  refine T_bind (T_standAt (T_bind (T_mono h fun ov L₁ h1 => T_bind (T_holding (T_mono h1 fun iv L₂ h2 => T_bind (T_holding (T_bind (T_standAt (T_bind (T_mono h2 fun old L₃ h3 => T_bind (T_holding (T_mono h3 fun v L₄ h4 => T_bind (T_standAt (T_operate (T_mono h4 fun r L₅ h5 => ?_)))))))))))))))
  refine T_bind (T_standAt ?_)
  rw [hi]
  exact T_bind (T_holding (T_mono h5 fun ι L₆ h6 => T_bind (T_release (T_pure h6))))
theorem T_pow (h0 : 0 ≤ b) (h1 : b ≤ 1000000) (ha : a.natAbs < 2 ^ 64) (h : ∀ k, Q (.int (a ^ b.toNat) k) L) : T B n (binaryOp .Pow (.int a t) (.int b u)) L Q := T_int1 (fun ι ι ι ι h => PyProof.Rows.pow_int_small h0 h1 ha h) h
theorem T_getSlice' {l sl : Addr} {vs ws : List Value} {vl vu vt : Value} {lo hi st : Option Int} {value slice : Expr} {Q : Value → Led → Prop} (hT : TyIs B L (.ref l) "list") (hm : ∀ s, St B L s → s.heap.IsList l vs.toArray) (hs : (sl, flds "slice" [vl, vu, vt]) ∈ L) (pl : IsPart vl lo) (pu : IsPart vu hi) (ps : IsPart vt st) (h0 : st ≠ some 0) (hw : slicePick vs.toArray lo hi st = ws.toArray) (hz : vs.length ≤ 16384)
    (hq : ∃ ops, subscripted slice false (.ref l) (.ref sl) = operate ops (getItem (.ref l) (.ref sl))) (h : ∀ r, Q (.ref r) ((r, .ls ws) :: L)) : T B n (subscriptTail value slice (.ref l) (.ref sl)) L Q := by
  obtain ⟨ops, hq⟩ := hq
  refine T_tail hT slot_list_getitem.lookup hq fun A hA s S => ?_
  refine wpAny_getItem_list_slice (hm s S) ⟨_, S.its _ hs, rfl, rfl⟩ pl pu ps h0 ?_ (Nat.le_trans (by simpa using hz) (by decide))
  rw [hw]
  exact ⟨_, S.push (o := { cls := .type "list", data := .seq ws.toArray }) (it := .ls ws) rfl fun h' e => ⟨_, e⟩, h _⟩
end
section
variable {B : Bg} {n : Nat} {α : Type} {L L' L₁ : Led} {env : Env} {ks : List (Str × NameKind)} {F : Addr} {cl : List (Str × Addr)} {x y z : Str} {v : Value} {pos : Pos} {f f' : Str → Option Value} {o : Option Value}
noncomputable def Sub (L L' : Led) : Prop := ∀ p ∈ L, p ∈ L'
theorem kept_ap {ns : List Str} (k : Kept ns f f') (h : (ns.contains x) = false) (e : f x = o) : f' x = o := (k x fun m => by rw [List.contains_iff_mem.mpr m] at h; cases h).trans e
theorem kept_up {ns : List Str} {w : Value} (h : x ∈ ns) (k : Kept ns f f') : Kept ns f (up f' x w) := Kept.up h k
theorem kept_wide {ns ns' : List Str} (k : Kept ns f f') (h : (ns.all fun y => ns'.contains y) = true) : Kept ns' f f' := fun x hx => k x fun m => hx (List.contains_iff_mem.mp (List.all_eq_true.mp h x m))
noncomputable def Ev (B : Bg) (n : Nat) (env : Env) (L : Led) (e : Expr) (v : Value) : Prop := (∀ es, starEach (e :: es) env = (false, eval e env) :: starEach es env) ∧ ∀ Q : Value → Led → Prop, Q v L → T B n (eval e env) L Q
theorem ev_f (E : EnvIs env ks F cl) (hk : (x, NameKind.local) ∈ ks) (e : f x = some v) : Ev B n env ((F, It.nf f) :: L) (.Name x pos) v := ⟨fun ι => rfl, fun ι h => T_nm E hk (nm_f (.head _) e h)⟩
theorem ev_c {c : Addr} (E : EnvIs env ks F cl) (hk : (x, NameKind.cell) ∈ ks) (hc : (x, c) ∈ cl) (e : (c, It.ce (some v)) ∈ L) : Ev B n env L (.Name x pos) v := ⟨fun ι => rfl, fun ι h => T_nm E hk (nm_cell hc e h)⟩
theorem ev_ls {e : Expr} {i : Int} {k : Nat} {p : Pos} {a : Addr} {vs : List Value} (he : Ev B n env L e (.ref a)) (m : (a, It.ls vs) ∈ L) (hb : (decide (0 ≤ i) && decide (i < 2 ^ 63)) = true) (hv : vs[i.toNat]? = some v) : Ev B n env L (.Subscript e (.Constant (.int i) k p) pos) v :=
  ⟨fun ι => rfl, fun ι h => T_Sub (he.2 _ (T_c_int fun ι => T_item_ls m (of_decide_eq_true (Bool.and_eq_true_iff.mp hb).1) (of_decide_eq_true (Bool.and_eq_true_iff.mp hb).2) hv rfl h))⟩
theorem ev_tup {e : Expr} {i : Int} {k : Nat} {p : Pos} {a : Addr} {vs : List Value} (he : Ev B n env L e (.ref a)) (m : (a, tup vs) ∈ L) (hb : (decide (0 ≤ i) && decide (i < 2 ^ 63)) = true) (hv : vs[i.toNat]? = some v) : Ev B n env L (.Subscript e (.Constant (.int i) k p) pos) v :=
  ⟨fun ι => rfl, fun ι h => T_Sub (he.2 _ (T_c_int fun ι => T_item_tup m (of_decide_eq_true (Bool.and_eq_true_iff.mp hb).1) (of_decide_eq_true (Bool.and_eq_true_iff.mp hb).2) hv rfl h))⟩
end
section
variable {B : Bg} {n : Nat} {L L' : Led} {env : Env} {ks : List (Str × NameKind)} {F p hl : Addr} {cl : List (Str × Addr)} {f : Str → Option Value} {pv hv : List Value} {Q : Flow → Led → Prop}
theorem s_push' (O : Our B) {w ob : Str} {eit : Expr} {p1 p3 p4 p5 p6 p7 p8 : Pos} {rest : List Stmt} {x dx : Addr} {o : Obj} {pre a : List Nat} {m : List (Str × Option Value)} (E : EnvIs env ks F cl) (hw : (w, NameKind.local) ∈ ks) (hpp : (p4.endLine == p6.line) = true)
    (hsw : swapsWith (.Call (.Attribute (.Name ob p3) "push_token" p4) [.Name w p5] [] p6) none p7.line env = pure false) (hs : ∀ x, foldedSetIterable eit env x = pure x)
    (hit : Ev B (n + 5) env ((F, .nf f) :: (p, .ls pv) :: L) eit (.ref hl)) (hob : ∀ f' G, Kept [w] f f' → Sub L G → Ev B (n + 5) env ((F, .nf f') :: G) (.Name ob p3) (.ref x))
    (ho : InstOb o 153 dx) (hne : dx ≠ x) (hx : (x, .ob o) ∈ L) (hd : (dx, dn m) ∈ L) (hm : m.lookup ("pushback" : Str) = some (some (Value.ref p))) (hm2 : (m.lookup ("push_token" : Str)).join = none) (hl' : (hl, It.ls hv) ∈ L) (ha : StrsAre hv (a.map nameOf)) (hp : StrsAre pv (pre.map nameOf)) (hz : pre.length + a.length ≤ 100)
    (h : ∀ f' pv', Kept [w] f f' → StrsAre pv' ((pre ++ a).map nameOf) → T B (n + 5) (execs rest env) ((F, .nf f') :: (p, .ls pv') :: L) Q) :
    T B (n + 5) (execs (.For (.Name w p1) eit [.Expr (.Call (.Attribute (.Name ob p3) "push_token" p4) [.Name w p5] [] p6) p7] [] p8 :: rest) env) ((F, .nf f) :: (p, .ls pv) :: L) Q := by
  refine T_s_For hs (hit.2 _ (T_iter_ls (.tail _ (.tail _ hl')) fun it => ?_))
  refine Tc_for_ls (l := hl) (vs := hv) (fun rest L' => ∃ f' pv' dn td, Kept [w] f f' ∧ L' = (F, .nf f') :: (p, .ls pv') :: L ∧ a = dn ++ td ∧ StrsAre rest (td.map nameOf) ∧ StrsAre pv' ((pre ++ dn).map nameOf)) ?hm (fun ι ι => rfl) ?turn ?fin .head ⟨f, pv, [], a, Kept.refl, rfl, rfl, ha, by rw [List.append_nil]; exact hp⟩
  case hm => rintro _ _ ⟨_, _, _, _, _, rfl, _⟩; exact .tail _ (.tail _ hl')
  case turn =>
    rintro ia X x rs _ ⟨f', pv', dn, td, hk, rfl, e1, e2, e3⟩
    cases td with
    | nil => cases e2
    | cons z td =>
      cases e2 with | cons _ t e2 =>
      refine T_assignName (T_stf E hw (.tail .head) (T_s_Expr E hsw (T_MethS1 rfl hpp rfl rfl ((hob _ _ (kept_up (.head _) hk) fun p hp => .tail _ (.tail _ hp)).2 _ ⟨_, cal_push O (.tail _ (.tail _ (.tail _ hx))) (.tail _ (.tail _ (.tail _ hd))) ho hne hm2, ?_⟩))))
      refine T_items_cons rfl (T_nm E hw (nm_f (.head _) up_eq (T_items_nil ⟨kp_150 O, ?_⟩)))
      refine c_push O (p := p) ho hne hm (.tail (.tail .head)) (.tail _ (.tail _ hx)) (.tail _ (.tail _ hd)) ?_ ⟨rfl, ?_⟩
      · have := strsAre_len e3
        rw [List.length_map, List.length_append] at this
        rw [e1, List.length_append] at hz
        exact this ▸ Nat.le_trans (Nat.add_le_add_left (Nat.le_add_right _ _) _) hz
      · refine T_nil (loop_next ⟨_, .cons (.tail (.tail .head)) (.cons (.tail .head) (.cons .head .refl)), _, _, dn ++ [z], td, kept_up (.head _) hk, rfl, by rw [e1, List.append_assoc]; rfl, e2, ?_⟩)
        rw [← List.append_assoc, List.map_append]
        exact strsAre_append e3 (.cons _ _ .nil)
  case fin =>
    rintro _ ⟨f', pv', dn, td, hk, rfl, e1, e2, e3⟩
    have ht : td = [] := by cases td with | nil => rfl | cons z r => cases e2
    rw [ht, List.append_nil] at e1
    exact T_nil (h f' pv' hk (e1 ▸ e3))
end
section
variable {g : Nat} {t : Tok}
theorem strs_cons {vs : List Value} {y : Value} {xs : List Nat} {P : Prop} (h : StrsAre (y :: vs) (xs.map nameOf)) (k : ∀ g t r, xs = g :: r → y = .str (nameOf g) t → StrsAre vs (r.map nameOf) → P) : P := by
  cases xs with
  | nil => cases h
  | cons g r => cases h with | cons _ t h => exact k g t r rfl rfl h
theorem strs_nil {xs : List Nat} (h : StrsAre [] (xs.map nameOf)) : xs = [] := by
  cases xs with
  | nil => rfl
  | cons g r => cases h
theorem strs_of {vs : List Value} {g : Nat} {xs : List Nat} {P : Prop} (h : StrsAre vs ((g :: xs).map nameOf)) (k : ∀ t ws, vs = .str (nameOf g) t :: ws → StrsAre ws (xs.map nameOf) → P) : P := by
  cases h with | cons _ t h => exact k t _ rfl h
theorem strs_len {vs : List Value} {xs : List Nat} (h : StrsAre vs (xs.map nameOf)) : vs.length = xs.length := by rw [strsAre_len h, List.length_map]
theorem strs_snoc {vs : List Value} {xs : List Nat} (h : StrsAre vs (xs.map nameOf)) : StrsAre (vs ++ [.str (nameOf g) t]) ((xs ++ [g]).map nameOf) := by
  rw [List.map_append]; exact strsAre_append h (.cons _ _ .nil)
end
section
variable {B : Bg} {n : Nat} {L : Led} {env : Env} {F : Addr} {x y z r g b p q t : Fl} {Q : Flow → Led → Prop} {t1 t2 t3 : Tok} {i m : Int}
noncomputable def rgbSel (m : Int) (v t p q : Fl) : Option (Fl × Fl × Fl) := match m with
  | 0 => some (v, t, p)
  | 1 => some (q, v, p)
  | 2 => some (p, v, t)
  | 3 => some (p, q, v)
  | 4 => some (t, p, v)
  | 5 => some (v, p, q)
  | _ => none
theorem rgb_el {C : Prop} (hp : hsvRgb x y z = some (r, g, b)) (h1 : feq y (0 : UInt64) = true → r = z → g = z → b = z → C)
    (h2 : ∀ i, feq y (0 : UInt64) = false → ftr (Float64.mul x (4618441417868443648 : UInt64)) = some i → decide (i.natAbs < 1000) = true → rgbSel (Int.fmod i 6) z (Float64.mul z (Float64.sub (4607182418800017408 : UInt64) (Float64.mul y (Float64.sub (4607182418800017408 : UInt64) (Float64.sub (Float64.mul x (4618441417868443648 : UInt64)) (Float64.ofInt i)))))) (Float64.mul z (Float64.sub (4607182418800017408 : UInt64) y)) (Float64.mul z (Float64.sub (4607182418800017408 : UInt64) (Float64.mul y (Float64.sub (Float64.mul x (4618441417868443648 : UInt64)) (Float64.ofInt i))))) = some (r, g, b) → C) : C := by
  unfold hsvRgb at hp
  by_cases e : feq y (0 : UInt64) = true
  · rw [if_pos e] at hp
    cases hp
    exact h1 e rfl rfl rfl
  · rw [if_neg e] at hp
    refine (Option.bind_eq_some_iff.mp hp).elim fun i hi => ?_
    by_cases hb : 1000 ≤ i.natAbs
    · have := hi.2
      rw [if_pos hb] at this
      cases this
    · have := hi.2
      rw [if_neg hb] at this
      exact h2 i (Bool.not_eq_true _ ▸ e) hi.1 (decide_eq_true (Nat.lt_of_not_le hb)) this
noncomputable abbrev rgbKs : List (Str × NameKind) := [("h", .local), ("s", .local), ("v", .local), ("i", .local), ("f", .local), ("p", .local), ("q", .local), ("t", .local), ("int", .globalImplicit)]
noncomputable def rgbB : List Stmt := fnB (stAt 11)
noncomputable abbrev hsF (x y z : Fl) : Fs := [("h", IsF x), ("s", IsF y), ("v", IsF z)]
set_option maxHeartbeats 4000000
theorem rgb_ret (E : EnvIs env rgbKs F []) {f : Fl} (hp : rgbSel m z t p q = some (r, g, b)) (h : ∀ f q k1 k2 k3, k1 ≠ 0 → k2 ≠ 0 → k3 ≠ 0 → Q (.ret (.ref q)) ((q, tup [.float r k1, .float g k2, .float b k3]) :: (F, .nf f) :: L)) :
    SH B n env F L (("i", IsI m) :: ("t", IsF t) :: ("q", IsF q) :: ("p", IsF p) :: ("f", IsF f) :: hsF x y z) (rgbB.drop 7) Q := by
  unfold rgbSel at hp
  split at hp
  all_goals first | cases hp | skip
  all_goals (repeat (first | exact sF rfl (sY (hEqI rfl (by kba_ints) (by kba_ints)) rfl (sR (by kba_ints) (by kba_ints) (by kba_ints) h)) | refine sF rfl (sN (hEqI rfl (by kba_ints) (by kba_ints)) rfl (s0 ?_))))
theorem c_hsvRgb (O : Our B) {Q : Value → Led → Prop} (n1 : t1 ≠ 0) (n2 : t2 ≠ 0) (n3 : t3 ≠ 0) (hp : hsvRgb x y z = some (r, g, b))
    (h : ∀ q k1 k2 k3, k1 ≠ 0 → k2 ≠ 0 → k3 ≠ 0 → Q (.ref q) ((q, tup [.float r k1, .float g k2, .float b k3]) :: L)) : T B (n + 2) (call (.ref 77) [.float x t1, .float y t2, .float z t3] []) L Q := by
  refine T_weak ?_
  refine T_sdef O 77 [("h", .float x t1), ("s", .float y t2), ("v", .float z t3)] ["i", "f", "p", "q", "t"] rgbKs
    [("v", some (.float z t3)), ("s", some (.float y t2)), ("h", some (.float x t1)), ("i", none), ("f", none), ("p", none), ("q", none), ("t", none)]
    rfl (by kernel_rfl) rfl rfl (by decide) (by rfl) (by decide) rfl (by rfl) rfl rfl rfl rfl rfl rfl ?_
  intro F env E _ _
  refine T_nfx (P := fun f => FS f (hsF x y z)) (.cons rfl ⟨t1, n1, rfl⟩ (.cons rfl ⟨t2, n2, rfl⟩ (.cons rfl ⟨t3, n3, rfl⟩ .nil))) ?_
  show SH B (n + 1) env F L (hsF x y z) (rgbB.drop 0) _
  have hq : ∀ f q k1 k2 k3, k1 ≠ 0 → k2 ≠ 0 → k3 ≠ 0 → ∃ L'', Pick L'' ((q, tup [.float r k1, .float g k2, .float b k3]) :: (F, .nf f) :: L) ∧ Q (.ref q) L'' := fun f q k1 k2 k3 a b c => ⟨_, .cons .head (.skip .refl), h q k1 k2 k3 a b c⟩
  refine rgb_el hp (fun e e1 e2 e3 => ?_) (fun i e hi hb hs => ?_)
  · subst e1 e2 e3
    exact sF rfl (sY (hEqF rfl (by kba_ints) (by kba_ints)) e (sR (by kba_ints) (by kba_ints) (by kba_ints) hq))
  · refine sF rfl (sN (hEqF rfl (by kba_ints) (by kba_ints)) e (s0 ?_))
    iterate 10 ksw_less
    refine sF rfl (sA3 (ps' := ("t", IsF _) :: ("q", IsF _) :: ("p", IsF _) :: ("f", IsF _) :: hsF x y z) E (by tb_rel) rfl rfl (by kba_ints) (rgb_ret E hs hq))
end
theorem bind_el {α β : Type} {o : Option α} {f : α → Option β} {b : β} {C : Prop} (h : o.bind f = some b) (k : ∀ a, o = some a → f a = some b → C) : C := (Option.bind_eq_some_iff.mp h).elim fun a h => k a h.1 h.2
section
variable {B : Bg} {n : Nat} {L : Led} {env : Env} {ks : List (Str × NameKind)} {F : Addr} {x y z r g b mx rg h' rc gc bc h6 : Fl} {ps : Fs} {Q : Flow → Led → Prop} {t1 t2 t3 : Tok}
noncomputable def hueR (x y mx rc gc bc : Fl) : Fl := if feq x mx then Float64.sub bc gc else if feq y mx then Float64.sub (Float64.add (4611686018427387904 : UInt64) rc) bc else Float64.sub (Float64.add (4616189618054758400 : UInt64) gc) rc
theorem hue_el {C : Prop} (h : hueOf x y z mx rg = some h') (k : ∀ rc gc bc h6, fdiv? (Float64.sub mx x) rg = some rc → fdiv? (Float64.sub mx y) rg = some gc → fdiv? (Float64.sub mx z) rg = some bc → fdiv? (hueR x y mx rc gc bc) (4618441417868443648 : UInt64) = some h6 → fmod? h6 (4607182418800017408 : UInt64) = some h' → C) : C :=
  bind_el h fun rc h1 h => bind_el h fun gc h2 h => bind_el h fun bc h3 h => bind_el h fun h6 h4 h5 => k rc gc bc h6 h1 h2 h3 h4 h5
noncomputable abbrev hsvKs : List (Str × NameKind) := [("r", .local), ("g", .local), ("b", .local), ("maxc", .local), ("minc", .local), ("rangec", .local), ("v", .local), ("s", .local), ("rc", .local), ("gc", .local), ("bc", .local), ("h", .local), ("max", .globalImplicit), ("min", .globalImplicit)]
noncomputable abbrev hlsKs : List (Str × NameKind) := [("r", .local), ("g", .local), ("b", .local), ("maxc", .local), ("minc", .local), ("sumc", .local), ("rangec", .local), ("l", .local), ("s", .local), ("rc", .local), ("gc", .local), ("bc", .local), ("h", .local), ("max", .globalImplicit), ("min", .globalImplicit)]
noncomputable def hsvB : List Stmt := fnB (stAt 10)
noncomputable def hlsB : List Stmt := fnB (stAt 9)
set_option maxHeartbeats 4000000
theorem b_el {C : Prop} (b : Bool) (h1 : b = true → C) (h2 : b = false → C) : C := by cases b with | true => exact h1 rfl | false => exact h2 rfl
theorem ev_cast {e : Expr} (he : EvH B n env F L ps e (IsF y)) (h : x = y) : EvH B n env F L ps e (IsF x) := h ▸ he
theorem hueR1 (e : feq x mx = true) : hueR x y mx rc gc bc = Float64.sub bc gc := if_pos e
theorem hueR2 (e : feq x mx = false) (e' : feq y mx = true) : hueR x y mx rc gc bc = Float64.sub (Float64.add (4611686018427387904 : UInt64) rc) bc := (if_neg (by rw [e]; exact Bool.false_ne_true)).trans (if_pos e')
theorem hueR3 (e : feq x mx = false) (e' : feq y mx = false) : hueR x y mx rc gc bc = Float64.sub (Float64.add (4616189618054758400 : UInt64) gc) rc := (if_neg (by rw [e]; exact Bool.false_ne_true)).trans (if_neg (by rw [e']; exact Bool.false_ne_true))
theorem hsv_el {C : Prop} (hp : rgbHsv x y z = some (r, g, b)) (h1 : feq (fmin3 x y z) (fmax3 x y z) = true → r = (0 : UInt64) → g = (0 : UInt64) → b = fmax3 x y z → C)
    (h2 : feq (fmin3 x y z) (fmax3 x y z) = false → fdiv? (Float64.sub (fmax3 x y z) (fmin3 x y z)) (fmax3 x y z) = some g → hueOf x y z (fmax3 x y z) (Float64.sub (fmax3 x y z) (fmin3 x y z)) = some r → b = fmax3 x y z → C) : C := by
  unfold rgbHsv at hp
  refine b_el (feq (fmin3 x y z) (fmax3 x y z)) (fun e => ?_) (fun e => ?_)
  · dsimp only at hp
    rw [if_pos e] at hp
    cases hp
    exact h1 e rfl rfl rfl
  · dsimp only at hp
    rw [if_neg (by rw [e]; exact Bool.false_ne_true)] at hp
    exact bind_el hp fun s hs hp => bind_el hp fun h hh hp => by cases hp; exact h2 e hs hh rfl
theorem hls_el {C : Prop} (hp : rgbHls x y z = some (r, g, b)) (h1 : feq (fmin3 x y z) (fmax3 x y z) = true → fdiv? (Float64.add (fmax3 x y z) (fmin3 x y z)) (4611686018427387904 : UInt64) = some g → r = (0 : UInt64) → b = (0 : UInt64) → C)
    (h2 : feq (fmin3 x y z) (fmax3 x y z) = false → fdiv? (Float64.add (fmax3 x y z) (fmin3 x y z)) (4611686018427387904 : UInt64) = some g → ((fle g (4602678819172646912 : UInt64) = true ∧ fdiv? (Float64.sub (fmax3 x y z) (fmin3 x y z)) (Float64.add (fmax3 x y z) (fmin3 x y z)) = some b) ∨ (fle g (4602678819172646912 : UInt64) = false ∧ fdiv? (Float64.sub (fmax3 x y z) (fmin3 x y z)) (Float64.sub (Float64.sub (4611686018427387904 : UInt64) (fmax3 x y z)) (fmin3 x y z)) = some b)) →
      hueOf x y z (fmax3 x y z) (Float64.sub (fmax3 x y z) (fmin3 x y z)) = some r → C) : C := by
  unfold rgbHls at hp
  refine bind_el hp fun l hl hp => b_el (feq (fmin3 x y z) (fmax3 x y z)) (fun e => ?_) (fun e => ?_)
  · rw [if_pos e] at hp
    cases hp
    exact h1 e hl rfl rfl
  · rw [if_neg (by rw [e]; exact Bool.false_ne_true)] at hp
    refine bind_el hp fun s hs hp => bind_el hp fun h hh hp => ?_
    cases hp
    refine h2 e hl ?_ hh
    refine b_el (fle g 4602678819172646912) (fun e => .inl ⟨e, ?_⟩) (fun e => .inr ⟨e, ?_⟩)
    · rwa [if_pos e] at hs
    · rwa [if_neg (by rw [e]; exact Bool.false_ne_true)] at hs
noncomputable abbrev rgbF (x y z : Fl) : Fs := [("r", IsF x), ("g", IsF y), ("b", IsF z)]
noncomputable abbrev hsvF (x y z mn mx rg s : Fl) : Fs := ("s", IsF s) :: ("v", IsF mx) :: ("rangec", IsF rg) :: ("minc", IsF mn) :: ("maxc", IsF mx) :: rgbF x y z
noncomputable abbrev hueF (rc gc bc : Fl) (ps : Fs) : Fs := ("bc", IsF bc) :: ("gc", IsF gc) :: ("rc", IsF rc) :: ps
theorem hsv_hue (E : EnvIs env hsvKs F []) {mn s : Fl} (hh : hueOf x y z mx rg = some h') (h : ∀ f q k1 k2 k3, k1 ≠ 0 → k2 ≠ 0 → k3 ≠ 0 → Q (.ret (.ref q)) ((q, tup [.float h' k1, .float s k2, .float mx k3]) :: (F, .nf f) :: L)) :
    SH B n env F L (hsvF x y z mn mx rg s) (hsvB.drop 6) Q := by
  refine hue_el hh fun rc gc bc h6 a1 a2 a3 a4 a5 => ?_
  iterate 6 ksw_less
  have hend : SH B n env F L (("h", IsF (hueR x y mx rc gc bc)) :: hueF rc gc bc (hsvF x y z mn mx rg s)) (hsvB.drop 10) Q := by
    iterate 3 ksw_less
    exact sR (by kba_ints) (by kba_ints) (by kba_ints) h
  refine sF rfl (b_el (feq x mx) (fun e1 => ?_) (fun e1 => ?_))
  · exact sY (hEqF rfl (by kba_ints) (by kba_ints)) e1 (sA E (by tb_rel) rfl rfl (ev_cast (by kba_ints) (hueR1 e1)) (s0 hend))
  · refine sN (hEqF rfl (by kba_ints) (by kba_ints)) e1 (b_el (feq y mx) (fun e2 => ?_) (fun e2 => ?_))
    · exact sY (hEqF rfl (by kba_ints) (by kba_ints)) e2 (sA E (by tb_rel) rfl rfl (ev_cast (by kba_ints) (hueR2 e1 e2)) (s0 (s0 hend)))
    · exact sN (hEqF rfl (by kba_ints) (by kba_ints)) e2 (sA E (by tb_rel) rfl rfl (ev_cast (by kba_ints) (hueR3 e1 e2)) (s0 (s0 hend)))
noncomputable abbrev hlsF (x y z mn mx sm rg l s : Fl) : Fs := ("s", IsF s) :: ("l", IsF l) :: ("rangec", IsF rg) :: ("sumc", IsF sm) :: ("minc", IsF mn) :: ("maxc", IsF mx) :: rgbF x y z
theorem hls_hue (E : EnvIs env hlsKs F []) {mn sm l s : Fl} (hh : hueOf x y z mx rg = some h') (h : ∀ f q k1 k2 k3, k1 ≠ 0 → k2 ≠ 0 → k3 ≠ 0 → Q (.ret (.ref q)) ((q, tup [.float h' k1, .float l k2, .float s k3]) :: (F, .nf f) :: L)) :
    SH B n env F L (hlsF x y z mn mx sm rg l s) (hlsB.drop 7) Q := by
  refine hue_el hh fun rc gc bc h6 a1 a2 a3 a4 a5 => ?_
  iterate 6 ksw_less
  have hend : SH B n env F L (("h", IsF (hueR x y mx rc gc bc)) :: hueF rc gc bc (hlsF x y z mn mx sm rg l s)) (hlsB.drop 11) Q := by
    iterate 3 ksw_less
    exact sR (by kba_ints) (by kba_ints) (by kba_ints) h
  refine sF rfl (b_el (feq x mx) (fun e1 => ?_) (fun e1 => ?_))
  · exact sY (hEqF rfl (by kba_ints) (by kba_ints)) e1 (sA E (by tb_rel) rfl rfl (ev_cast (by kba_ints) (hueR1 e1)) (s0 hend))
  · refine sN (hEqF rfl (by kba_ints) (by kba_ints)) e1 (b_el (feq y mx) (fun e2 => ?_) (fun e2 => ?_))
    · exact sY (hEqF rfl (by kba_ints) (by kba_ints)) e2 (sA E (by tb_rel) rfl rfl (ev_cast (by kba_ints) (hueR2 e1 e2)) (s0 (s0 hend)))
    · exact sN (hEqF rfl (by kba_ints) (by kba_ints)) e2 (sA E (by tb_rel) rfl rfl (ev_cast (by kba_ints) (hueR3 e1 e2)) (s0 (s0 hend)))
theorem c_rgbHsv (O : Our B) {Q : Value → Led → Prop} (n1 : t1 ≠ 0) (n2 : t2 ≠ 0) (n3 : t3 ≠ 0) (hp : rgbHsv x y z = some (r, g, b))
    (h : ∀ q k1 k2 k3, k1 ≠ 0 → k2 ≠ 0 → k3 ≠ 0 → Q (.ref q) ((q, tup [.float r k1, .float g k2, .float b k3]) :: L)) : T B (n + 2) (call (.ref 70) [.float x t1, .float y t2, .float z t3] []) L Q := by
  refine T_weak ?_
  refine T_sdef O 70 [("r", .float x t1), ("g", .float y t2), ("b", .float z t3)] ["maxc", "minc", "rangec", "v", "s", "rc", "gc", "bc", "h"] hsvKs
    [("b", some (.float z t3)), ("g", some (.float y t2)), ("r", some (.float x t1)), ("maxc", none), ("minc", none), ("rangec", none), ("v", none), ("s", none), ("rc", none), ("gc", none), ("bc", none), ("h", none)]
    rfl (by kernel_rfl) rfl rfl (by decide) (by rfl) (by decide) rfl (by rfl) rfl rfl rfl rfl rfl rfl ?_
  intro F env E _ _
  refine T_nfx (P := fun f => FS f (rgbF x y z)) (.cons rfl ⟨t1, n1, rfl⟩ (.cons rfl ⟨t2, n2, rfl⟩ (.cons rfl ⟨t3, n3, rfl⟩ .nil))) ?_
  show SH B (n + 1) env F L (rgbF x y z) (hsvB.drop 0) _
  have hq : ∀ f q k1 k2 k3, k1 ≠ 0 → k2 ≠ 0 → k3 ≠ 0 → ∃ L'', Pick L'' ((q, tup [.float r k1, .float g k2, .float b k3]) :: (F, .nf f) :: L) ∧ Q (.ref q) L'' := fun f q k1 k2 k3 a b c => ⟨_, .cons .head (.skip .refl), h q k1 k2 k3 a b c⟩
  iterate 8 ksw_less
  refine sF rfl (hsv_el hp (fun e e1 e2 e3 => ?_) (fun e e1 e2 e3 => ?_))
  · subst e1 e2 e3
    exact sY (hEqF rfl (by kba_ints) (by kba_ints)) e (sR (by kba_ints) (by kba_ints) (by kba_ints) hq)
  · subst e3
    refine sN (hEqF rfl (by kba_ints) (by kba_ints)) e (s0 ?_)
    iterate 2 ksw_less
    exact hsv_hue E e2 hq
theorem c_rgbHls (O : Our B) {Q : Value → Led → Prop} (n1 : t1 ≠ 0) (n2 : t2 ≠ 0) (n3 : t3 ≠ 0) (hp : rgbHls x y z = some (r, g, b))
    (h : ∀ q k1 k2 k3, k1 ≠ 0 → k2 ≠ 0 → k3 ≠ 0 → Q (.ref q) ((q, tup [.float r k1, .float g k2, .float b k3]) :: L)) : T B (n + 2) (call (.ref 63) [.float x t1, .float y t2, .float z t3] []) L Q := by
  refine T_weak ?_
  refine T_sdef O 63 [("r", .float x t1), ("g", .float y t2), ("b", .float z t3)] ["maxc", "minc", "sumc", "rangec", "l", "s", "rc", "gc", "bc", "h"] hlsKs
    [("b", some (.float z t3)), ("g", some (.float y t2)), ("r", some (.float x t1)), ("maxc", none), ("minc", none), ("sumc", none), ("rangec", none), ("l", none), ("s", none), ("rc", none), ("gc", none), ("bc", none), ("h", none)]
    rfl (by kernel_rfl) rfl rfl (by decide) (by rfl) (by decide) rfl (by rfl) rfl rfl rfl rfl rfl rfl ?_
  intro F env E _ _
  refine T_nfx (P := fun f => FS f (rgbF x y z)) (.cons rfl ⟨t1, n1, rfl⟩ (.cons rfl ⟨t2, n2, rfl⟩ (.cons rfl ⟨t3, n3, rfl⟩ .nil))) ?_
  show SH B (n + 1) env F L (rgbF x y z) (hlsB.drop 0) _
  have hq : ∀ f q k1 k2 k3, k1 ≠ 0 → k2 ≠ 0 → k3 ≠ 0 → ∃ L'', Pick L'' ((q, tup [.float r k1, .float g k2, .float b k3]) :: (F, .nf f) :: L) ∧ Q (.ref q) L'' := fun f q k1 k2 k3 a b c => ⟨_, .cons .head (.skip .refl), h q k1 k2 k3 a b c⟩
  refine hls_el hp (fun e hl e1 e2 => ?_) (fun e hl es hh => ?_)
  · subst e1 e2
    iterate 10 ksw_less
    exact sF rfl (sY (hEqF rfl (by kba_ints) (by kba_ints)) e (sR (by kba_ints) (by kba_ints) (by kba_ints) hq))
  · iterate 10 ksw_less
    refine sF rfl (sN (hEqF rfl (by kba_ints) (by kba_ints)) e (s0 (sF rfl (es.elim (fun es => ?_) (fun es => ?_)))))
    · have hs := es.2
      refine sY (hLeF rfl (by kba_ints) (by kba_ints)) es.1 ?_
      ksw_less
      exact s0 (hls_hue E hh hq)
    · have hs := es.2
      refine sN (hLeF rfl (by kba_ints) (by kba_ints)) es.1 ?_
      ksw_less
      exact s0 (hls_hue E hh hq)
end
section
variable {B : Bg} {n : Nat} {L L' L₁ L₂ : Led} {Q : Value → Led → Prop} {a b : Int} {t u : Tok} {vs : List Value}
theorem c_gni (O : Our B) {f : Addr} {fo : Obj} {cd v0 v1 v2 : Value} {q : Str} {fd : FuncData} (hf : (f, .fn fo cd q) ∈ L) (hfd : fo.data = .func fd)
    {r g b : UInt64} (hc : ∀ Lx Q', (∀ p ∈ L, p ∈ Lx) → (∀ c k1 k2 k3, k1 ≠ 0 → k2 ≠ 0 → k3 ≠ 0 → Q' (.ref c) ((c, tup [.float r k1, .float g k2, .float b k3]) :: Lx)) → T B n (call (.ref f) [v0] [("share", v1), ("level", v2)]) Lx Q')
    (h : ∀ tp c k1 k2 k3, k1 ≠ 0 → k2 ≠ 0 → k3 ≠ 0 → Q (.ref tp) ((tp, tup [.ref c, .ref c]) :: (c, tup [.float r k1, .float g k2, .float b k3]) :: L)) : T B (n + 1) (call (.ref 115) [v0, .ref f] [("share", v1), ("level", v2)]) L Q := by
  refine T_weak ?_
  refine T_sdefE O 115 ["argval"] [("name_index", .local), ("get_name", .local), ("extrainfo", .local), ("argval", .local)] rfl (by kernel_rfl) rfl (by rfl) (by rfl) rfl rfl rfl rfl rfl rfl ?_
  refine T_eqv (m' := alloc { cls := .type "dict", data := .dict #[] } >>= fun d => (forIn ([("share", v1), ("level", v2)] : List (Str × Value)) PUnit.unit fun x ι => nsSet d x.1 x.2 >>= fun ι => pure (ForInStep.yield PUnit.unit)) >>= fun ι => pure ([("name_index", v0), ("get_name", .ref f), ("extrainfo", .ref d)] : List (Str × Value))) (by kernel_rfl) ?_
  refine T_addrBind (it := .ob (dictOf [] 0)) (fun ι ι e => e) rfl fun d hsm => ?_
  rw [List.forIn_cons]
  refine T_bind (T_bind (T_bind (T_nsSet .head (fun ι h => nomatch h) (fun ι h => nomatch h) fun t1 => T_pure ?_)))
  dsimp only
  rw [List.forIn_cons]
  refine T_bind (T_bind (T_nsSet .head (by simp [Value.isStr]; decide) (by simp [DictEntry.refKey]) fun t2 => T_pure ?_))
  dsimp only
  rw [List.forIn_nil]
  refine T_pure (T_pure ⟨rfl, rfl, fun F env E => ?_⟩)
  refine T_pick (L' := (F, .ns [("extrainfo", some (.ref d)), ("get_name", some (.ref f)), ("name_index", some v0), ("argval", none)]) :: (d, d2Of "share" "level" _ _ t1 t2 v1 v2 2) :: L) .refl ?_
  repeat nest_cls
  refine T_isNotNone ?_
  repeat nest_cls
  refine T_CallStarKw rfl ?_
  repeat nest_cls
  intro d2
  repeat nest_cls
  refine .mk (d := d) ?ne rfl hsm (by tb_start) (by tb_start) ⟨kp_fnL (by tb_rel) hfd, ?_⟩
  case ne => decide
  refine hc _ _ (fun p hp => .tail _ hp) fun c k1 k2 k3 m1 m2 m3 => ?_
  repeat nest_cls
  exact ⟨_, by kct_strs, h _ _ _ _ _ m1 m2 m3⟩
end
structure Told (p s l : Nat) (r g b h s' v h2 l2 s2 : Fl) : Prop where
  rgb : hsvRgb (fdivI p 16) (fdivI s 4) (fdivI l 4) = some (r, g, b)
  hsv : rgbHsv r g b = some (h, s', v)
  hls : rgbHls r g b = some (h2, l2, s2)
  e1 : feq h (fdivI p 16) = true
  e2 : feq s' (fdivI s 4) = true
  e3 : feq v (fdivI l 4) = true
  e4 : feq h2 (fdivI p 16) = true
  e5 : feq l2 (fdivI (l * (8 - s)) 32) = true
  e6 : feq s2 (fdivI (l * s) (min (l * (8 - s)) (32 - l * (8 - s)))) = true
  back : ftr (Float64.mul h (Float64.ofInt 16)) = some (p : Int)
set_option tactic.hygienic true in
theorem told_spec {p s l : Nat} (hp : p < 16) (hs : 1 ≤ s ∧ s ≤ 4) (hl : 1 ≤ l ∧ l ≤ 4) : ∃ r g b h s' v h2 l2 s2, Told p s l r g b h s' v h2 l2 s2 := by
  have h := told_ok hp hs hl
  unfold toldOk at h
  split at h
  · cases h
  rename_i r g b e1
  split at h
  · rename_i h1 s1 v1 h2 l2 s2 q1 q2
    simp only [Bool.and_eq_true, beq_iff_eq] at h
    obtain ⟨⟨⟨⟨⟨⟨a1, a2⟩, a3⟩, a4⟩, a5⟩, a6⟩, a7⟩ := h
    exact ⟨r, g, b, h1, s1, v1, h2, l2, s2, e1, q1, q2, a1, a2, a3, a4, a5, a6, a7⟩
  · cases h
theorem inf_a : ∀ i < 33, Float64.isInf (fdivI i 16) = false ∧ Float64.isInf (fdivI i 4) = false ∧ Float64.isInf (fdivI i 32) = false := by decide +kernel
theorem inf_b : ∀ i < 17, ∀ j < 17, j = 0 ∨ Float64.isInf (fdivI i j) = false := by decide +kernel
structure HuesD (kvs : List (Str × Value)) (us : List Nat) : Prop where
  nd : (kvs.map (·.1)).Nodup
  get : ∀ x ∈ us, ∃ t, valueAt kvs (nameOf x) = some (.int x t)
  pos : ∀ p ∈ kvs, ∃ (i : Nat) (t : Tok), p.2 = .int i t
  ne : us ≠ [] → kvs ≠ []
theorem name_inj : ∀ i < 16, ∀ j < 16, nameOf i = nameOf j → i = j := by decide +kernel
noncomputable def Paint (B : Bg) (f : Addr) (cd : Value) (q : Str) (fo : Obj) : Prop := (∃ fd, fo.data = .func fd) ∧ ∀ (p s l : Nat) (r g b : Fl), p < 16 → s ≤ 4 → l ≤ 4 → hsvRgb (fdivI p 16) (fdivI s 4) (fdivI l 4) = some (r, g, b) → ∀ (n : Nat) (Lx : Led) (Q' : Value → Led → Prop) (tp ts tl : Tok), (f, .fn fo cd q) ∈ Lx →
  (∀ c k1 k2 k3, k1 ≠ 0 → k2 ≠ 0 → k3 ≠ 0 → Q' (.ref c) ((c, tup [.float r k1, .float g k2, .float b k3]) :: Lx)) → T B (n + 3) (call (.ref f) [.int p tp] [("share", .int s ts), ("level", .int l tl)]) Lx Q'
theorem sums_ok1 : ∀ lv < 5, ∀ sh < 5, 1 ≤ lv → 1 ≤ sh → min (lv * (8 - sh)) (32 - lv * (8 - sh)) < 17 ∧ 0 < min (lv * (8 - sh)) (32 - lv * (8 - sh)) := by decide +kernel
theorem sums_ok : ∀ lv < 5, ∀ sh < 5, 1 ≤ lv → 1 ≤ sh → lv * (8 - sh) < 33 ∧ lv * sh < 17 := by decide +kernel
theorem emin : ∀ m < 33, min ((m : Nat) : Int) ((32 : Int) - ((m : Nat) : Int)) = ((min m (32 - m) : Nat) : Int) := by decide +kernel
theorem flag_get : ∀ p < 16, flagNames[p]? = some (nameOf p) := by decide +kernel
theorem flag_first {p m : Nat} (hp : p < 16) (hm : m < p) : flagNames[m]? ≠ some (nameOf p) := by
  rw [flag_get m (by omega)]
  intro h
  have := name_inj m (by omega) p hp (Option.some.inj h)
  omega
noncomputable abbrev toldKs : List (Str × NameKind) := [("names", .local), ("used", .local), ("seed", .local), ("paint", .local), ("hues", .local), ("name", .local), ("place", .local), ("share", .local), ("level", .local), ("value", .local), ("again", .local), ("told", .local), ("other", .local), ("sums", .local), ("whole", .local), ("_get_name_info", .globalImplicit), ("rgb_to_hsv", .globalImplicit), ("rgb_to_hls", .globalImplicit), ("min", .globalImplicit), ("int", .globalImplicit)]
noncomputable def toldT : List Stmt := fnB (stAt 23)
noncomputable def toldB : List Stmt := forB (nB toldT 1)
section
variable {B : Bg} {n : Nat} {L : Led} {env : Env} {F nl ul pf hd c tq tr : Addr} {f : Str → Option Value} {nvs uvs : List Value} {p sh lv seed : Nat} {t t1 t2 t3 t4 u : Tok} {x1 x2 x3 y1 y2 y3 z1 z2 z3 : Fl} {kvs : List (Str × Value)} {Q : Flow → Led → Prop}
set_option maxHeartbeats 4000000
theorem t_0 (E : EnvIs env toldKs F []) (e1 : f "names" = some (.ref nl)) (e2 : f "name" = some (.str (nameOf p) t)) (hn : (nl, .ls nvs) ∈ L) (hnv : StrsAre nvs flagNames) (hp : p < 16)
    (h : ∀ t, T B (n + 4) (execs (toldB.drop 1) env) ((F, .nf (up f "place" (.int p t))) :: L) Q) : T B (n + 4) (execs (toldB.drop 0) env) ((F, .nf f) :: L) Q := by
  refine T_fr rfl ?_
  repeat nest_cls
  refine T_indexStr (by tb_rel) hnv (flag_get p hp) (fun m hm => flag_first hp hm) (by have := strsAre_len hnv; rw [this]; decide) fun k1 => ?_
  repeat nest_cls
  exact h _
theorem sh_eq {seed p : Nat} : (1 : Int) + ((seed : Int) + (p : Int)).fmod 4 = ((1 + (seed + p) % 4 : Nat) : Int) := by rw [Int.fmod_eq_emod_of_nonneg _ (by decide)]; rfl
theorem lv_eq {seed p : Nat} : (1 : Int) + ((seed : Int).fdiv 4 + (p : Int).fdiv 4).fmod 4 = ((1 + (seed / 4 + p / 4) % 4 : Nat) : Int) := by
  rw [Int.fmod_eq_emod_of_nonneg _ (by decide), Int.fdiv_eq_ediv_of_nonneg _ (by decide), Int.fdiv_eq_ediv_of_nonneg _ (by decide)]; rfl
theorem t_1 (E : EnvIs env toldKs F []) (e1 : f "seed" = some (.int seed t)) (e2 : f "place" = some (.int p t1))
    (h : ∀ k1 k2, T B (n + 4) (execs (toldB.drop 2) env) ((F, .nf (up (up f "level" (.int ((1 + (seed / 4 + p / 4) % 4 : Nat) : Int) k2)) "share" (.int ((1 + (seed + p) % 4 : Nat) : Int) k1))) :: L) Q) : T B (n + 4) (execs (toldB.drop 1) env) ((F, .nf f) :: L) Q := by
  refine T_fr rfl ?_
  repeat nest_cls
  rw [sh_eq, lv_eq]
  exact h _ _
theorem t_2 (O : Our B) (E : EnvIs env toldKs F []) {fo : Obj} {cd : Value} {q : Str} (e1 : f "place" = some (.int p t)) (e2 : f "paint" = some (.ref pf)) (e3 : f "share" = some (.int sh t1)) (e4 : f "level" = some (.int lv t2)) (hm : (pf, .fn fo cd q) ∈ L) (hP : Paint B pf cd q fo) (hp : p < 16) (hs : sh ≤ 4) (hl : lv ≤ 4)
    (hr : hsvRgb (fdivI p 16) (fdivI sh 4) (fdivI lv 4) = some (x1, x2, x3))
    (h : ∀ c m1 m2 m3, m1 ≠ 0 → m2 ≠ 0 → m3 ≠ 0 → T B (n + 4) (execs (toldB.drop 3) env) ((F, .nf (up (up f "value" (.ref c)) "again" (.ref c))) :: (c, tup [.float x1 m1, .float x2 m2, .float x3 m3]) :: L) Q) : T B (n + 4) (execs (toldB.drop 2) env) ((F, .nf f) :: L) Q := by
  refine T_fr rfl ?_
  repeat nest_cls
  refine T_CallKw2 rfl ?_
  repeat nest_cls
  refine hP.1.elim fun fd hfd => c_gni O (by tb_rel) hfd (fun Lx Q' hsub hq => hP.2 p sh lv x1 x2 x3 hp hs hl hr n Lx Q' _ _ _ (hsub _ (by tb_rel)) hq) fun tp c m1 m2 m3 y1 y2 y3 => ?_
  repeat nest_cls
  exact T_pick (by kct_strs) (h c m1 m2 m3 y1 y2 y3)
theorem sum_eq {lv sh : Nat} (h : sh ≤ 4) : (lv : Int) * ((8 : Int) - (sh : Int)) = ((lv * (8 - sh) : Nat) : Int) := by rw [Int.natCast_mul, Int.ofNat_sub (Nat.le_trans h (by decide))]; rfl
theorem t_3 (O : Our B) (E : EnvIs env toldKs F []) (e1 : f "value" = some (.ref c)) (e2 : f "again" = some (.ref c)) (e3 : f "share" = some (.int sh t1)) (e4 : f "level" = some (.int lv t2)) (hc : (c, tup [.float x1 t3, .float x2 t4, .float x3 u]) ∈ L) (n1 : t3 ≠ 0) (n2 : t4 ≠ 0) (n3 : u ≠ 0) (hs : sh ≤ 4) (hl : lv ≤ 4)
    (h1 : rgbHsv x1 x2 x3 = some (y1, y2, y3)) (h2 : rgbHls x1 x2 x3 = some (z1, z2, z3))
    (h : ∀ tq tr a1 a2 a3 c1 c2 c3 k, a1 ≠ 0 → a2 ≠ 0 → a3 ≠ 0 → c1 ≠ 0 → c2 ≠ 0 → c3 ≠ 0 → T B (n + 4) (execs (toldB.drop 4) env) ((F, .nf (up (up (up f "sums" (.int ((lv * (8 - sh) : Nat) : Int) k)) "other" (.ref tr)) "told" (.ref tq))) :: (tq, tup [.float y1 a1, .float y2 a2, .float y3 a3]) :: (tr, tup [.float z1 c1, .float z2 c2, .float z3 c3]) :: L) Q) :
    T B (n + 4) (execs (toldB.drop 3) env) ((F, .nf f) :: L) Q := by
  refine T_fr rfl ?_
  repeat nest_cls
  refine T_CallStar1 ?_
  repeat nest_cls
  refine ⟨_, _, rfl, by tb_rel, of_decide_eq_true rfl, kp_70 O, ?_⟩
  refine c_rgbHsv O n1 n2 n3 h1 fun tq a1 a2 a3 b1 b2 b3 => ?_
  repeat nest_cls
  refine T_CallStar1 ?_
  repeat nest_cls
  refine ⟨_, _, rfl, by tb_rel, of_decide_eq_true rfl, kp_63 O, ?_⟩
  refine c_rgbHls O n1 n2 n3 h2 fun tr c1 c2 c3 d1 d2 d3 => ?_
  repeat nest_cls
  refine T_mulS (by omega) fun k9 => ?_
  rw [sum_eq hs]
  repeat nest_cls
  exact T_pick (by kct_strs) (h tq tr a1 a2 a3 c1 c2 c3 _ b1 b2 b3 d1 d2 d3)
theorem t_4 (O : Our B) (E : EnvIs env toldKs F []) (e1 : f "told" = some (.ref tq)) (e2 : f "other" = some (.ref tr)) (e3 : f "place" = some (.int p t)) (e4 : f "share" = some (.int sh t1)) (e5 : f "level" = some (.int lv t2)) (e6 : f "sums" = some (.int ((lv * (8 - sh) : Nat) : Int) t3))
    {a1 a2 a3 c1 c2 c3 : Tok} (m1 : (tq, tup [.float y1 a1, .float y2 a2, .float y3 a3]) ∈ L) (m2 : (tr, tup [.float z1 c1, .float z2 c2, .float z3 c3]) ∈ L) (b1 : a1 ≠ 0) (b2 : a2 ≠ 0) (b3 : a3 ≠ 0) (d1 : c1 ≠ 0) (d2 : c2 ≠ 0) (d3 : c3 ≠ 0) {r' g' b' : Fl} (W : Told p sh lv r' g' b' y1 y2 y3 z1 z2 z3) (hp : p < 16) (hs : sh < 5) (hl : lv < 5) (hs1 : 1 ≤ sh) (hl1 : 1 ≤ lv)
    (h : T B (n + 4) (execs (toldB.drop 5) env) ((F, .nf (up f "whole" (.bool true))) :: L) Q) :
    T B (n + 4) (execs (toldB.drop 4) env) ((F, .nf f) :: L) Q := by
  have hb := sums_ok lv hl sh hs hl1 hs1
  have hc := sums_ok1 lv hl sh hs hl1 hs1
  have hc' := Nat.ne_of_gt hc.2
  have hp' : p < 33 := Nat.lt_trans hp (by decide)
  refine T_fr rfl ?_
  repeat nest_cls
  refine T_AndV ?_
  repeat nest_cls
  refine T_idiv (j := 16) (by decide) (inf_a p hp').1 fun i1 j1 => ?_
  repeat nest_cls
  refine T_idiv (j := 4) (by decide) (inf_a sh (Nat.lt_trans hs (by decide))).2.1 fun i2 j2 => ?_
  repeat nest_cls
  refine T_idiv (j := 4) (by decide) (inf_a lv (Nat.lt_trans hl (by decide))).2.1 fun i3 j3 => ?_
  repeat nest_cls
  refine T_eqTupF (by tb_rel) (by tb_rel) b1 b2 b3 j1 j2 j3 W.e1 W.e2 W.e3 ?_
  repeat nest_cls
  refine T_idiv (j := 16) (by decide) (inf_a p hp').1 fun i4 j4 => ?_
  repeat nest_cls
  refine T_idiv (j := 32) (by decide) (inf_a _ hb.1).2.2 fun i5 j5 => ?_
  repeat nest_cls
  refine T_mulS (Nat.lt_trans hl (by decide)) fun k10 => ?_
  repeat nest_cls
  rw [← Int.natCast_mul, emin _ hb.1]
  refine T_idiv hc' ((inf_b (lv * sh) hb.2 _ hc.1).resolve_left hc') fun i6 j6 => ?_
  repeat nest_cls
  refine T_eqTupF (by tb_rel) (by tb_rel) d1 d2 d3 j4 j5 j6 W.e4 W.e5 W.e6 ?_
  repeat nest_cls
  exact T_pick (by kct_strs) h
theorem t_5 (O : Our B) (E : EnvIs env toldKs F []) (e1 : f "told" = some (.ref tq)) (e2 : f "whole" = some (.bool true)) (e3 : f "hues" = some (.ref hd)) (e4 : f "name" = some (.str (nameOf p) t)) {a1 a2 a3 : Tok} (m1 : (tq, tup [.float y1 a1, .float y2 a2, .float y3 a3]) ∈ L) (hb : ftr (Float64.mul y1 (Float64.ofInt 16)) = some (p : Int)) (hz : kvs.length ≤ 1000)
    (h : ∀ k, Q .next ((hd, dS B (stored kvs (nameOf p) (.int p k))) :: (F, .nf f) :: L)) : T B (n + 4) (execs (toldB.drop 5) env) ((F, .nf f) :: (hd, dS B kvs) :: L) Q := by
  refine T_fr rfl ?_
  repeat nest_cls
  refine T_fmulI (Nat.lt_of_lt_of_le (show (16 : Int).natAbs < 2 ^ 10 by decide) (Nat.pow_le_pow_right (by decide) (show 10 ≤ 1023 by decide))) fun k11 hk11 => ?_
  repeat nest_cls
  refine T_ftr hb fun k12 => ?_
  repeat nest_cls
  refine T_dset (by tb_start) hz ?_
  exact T_nl rfl (h _)
noncomputable def TF (nl ul pf hd : Addr) (seed : Nat) (t : Tok) (f : Str → Option Value) : Prop := f "names" = some (.ref nl) ∧ f "used" = some (.ref ul) ∧ f "paint" = some (.ref pf) ∧ f "hues" = some (.ref hd) ∧ f "seed" = some (.int seed t)
theorem TF.kept {ns : List Str} {f' : Str → Option Value} (P : TF nl ul pf hd seed t f) (k : Kept ns f f') (h : (([("names" : Str), "used", "paint", "hues", "seed"] : List Str).all fun y => !(ns.contains y)) = true) : TF nl ul pf hd seed t f' := by
  have h' : ∀ y ∈ (["names", "used", "paint", "hues", "seed"] : List Str), ns.contains y = false := fun y hy => Bool.not_eq_true' _ ▸ List.all_eq_true.mp h y hy
  exact ⟨kept_ap k (h' _ (.head _)) P.1, kept_ap k (h' _ M1) P.2.1, kept_ap k (h' _ M2) P.2.2.1, kept_ap k (h' _ M3) P.2.2.2.1, kept_ap k (h' _ M4) P.2.2.2.2⟩
theorem TF.up {x : Str} {v : Value} (P : TF nl ul pf hd seed t f) (h : (([("names" : Str), "used", "paint", "hues", "seed"] : List Str).all fun y => !(([x] : List Str).contains y)) = true) : TF nl ul pf hd seed t (Mine.Internal.up f x v) := P.kept (kept_up (.head _) Kept.refl) h
theorem shb {x : Nat} : 1 ≤ 1 + x % 4 ∧ 1 + x % 4 ≤ 4 := ⟨Nat.le_add_right _ _, by rw [Nat.add_comm]; exact Nat.mod_lt _ (by decide)⟩
theorem t_turn (O : Our B) (E : EnvIs env toldKs F []) {fo : Obj} {cd : Value} {q : Str} (P : TF nl ul pf hd seed t f) (e1 : f "name" = some (.str (nameOf p) t1)) (hn : (nl, .ls nvs) ∈ L) (hnv : StrsAre nvs flagNames) (hp : p < 16) (hm : (pf, .fn fo cd q) ∈ L) (hP : Paint B pf cd q fo) (hz : kvs.length ≤ 1000)
    (h : ∀ f' k, TF nl ul pf hd seed t f' → ∀ e, Q .next ((hd, dS B (stored kvs (nameOf p) (.int p k))) :: (F, .nf f') :: (e ++ L))) : T B (n + 4) (execs (toldB.drop 0) env) ((F, .nf f) :: (hd, dS B kvs) :: L) Q := by
  refine t_0 E P.1 e1 (.tail _ hn) hnv hp fun t2 => ?_
  have P1 := P.up (x := "place") (v := .int p t2) rfl
  refine t_1 E P1.2.2.2.2 up_eq fun k1 k2 => ?_
  have hsh := shb (x := seed + p)
  have hlv := shb (x := seed / 4 + p / 4)
  generalize 1 + (seed + p) % 4 = sh at hsh
  generalize 1 + (seed / 4 + p / 4) % 4 = lv at hlv
  have P2 := (P1.up (x := "level") (v := .int lv k2) rfl).up (x := "share") (v := .int sh k1) rfl
  obtain ⟨r', g', b', h1, s1, v1, h2, l2, s2, W⟩ := told_spec hp hsh hlv
  refine t_2 O E (up_ne rfl (up_ne rfl up_eq)) P2.2.2.1 up_eq (up_ne rfl up_eq) (.tail _ hm) hP hp hsh.2 hlv.2 W.rgb fun c m1 m2 m3 n1 n2 n3 => ?_
  have P3 := (P2.up (x := "value") (v := .ref c) rfl).up (x := "again") (v := .ref c) rfl
  have q1 : up (up (up (up (up f "place" (.int p t2)) "level" (.int lv k2)) "share" (.int sh k1)) "value" (.ref c)) "again" (.ref c) "share" = some (.int sh k1) := up_ne rfl (up_ne rfl up_eq)
  have q2 : up (up (up (up (up f "place" (.int p t2)) "level" (.int lv k2)) "share" (.int sh k1)) "value" (.ref c)) "again" (.ref c) "level" = some (.int lv k2) := up_ne rfl (up_ne rfl (up_ne rfl up_eq))
  have q3 : up (up (up (up (up f "place" (.int p t2)) "level" (.int lv k2)) "share" (.int sh k1)) "value" (.ref c)) "again" (.ref c) "place" = some (.int p t2) := up_ne rfl (up_ne rfl (up_ne rfl (up_ne rfl up_eq)))
  have q4 : up (up (up (up (up f "place" (.int p t2)) "level" (.int lv k2)) "share" (.int sh k1)) "value" (.ref c)) "again" (.ref c) "name" = some (.str (nameOf p) t1) := up_ne rfl (up_ne rfl (up_ne rfl (up_ne rfl (up_ne rfl e1))))
  refine t_3 O E (up_ne rfl up_eq) up_eq q1 q2 (.head _) n1 n2 n3 hsh.2 hlv.2 W.hsv W.hls fun tq tr a1 a2 a3 c1 c2 c3 k b1 b2 b3 d1 d2 d3 => ?_
  generalize up (up (up (up (up f "place" (.int p t2)) "level" (.int lv k2)) "share" (.int sh k1)) "value" (.ref c)) "again" (.ref c) = g at P3 q1 q2 q3 q4
  refine t_4 O E up_eq (up_ne rfl up_eq) (up_ne rfl (up_ne rfl (up_ne rfl q3))) (up_ne rfl (up_ne rfl (up_ne rfl q1))) (up_ne rfl (up_ne rfl (up_ne rfl q2))) (up_ne rfl (up_ne rfl up_eq)) (.head _) M1 b1 b2 b3 d1 d2 d3 W hp (Nat.lt_succ_of_le hsh.2) (Nat.lt_succ_of_le hlv.2) hsh.1 hlv.1 ?_
  have P5 := (((P3.up (x := "sums") (v := .int ((lv * (8 - sh) : Nat) : Int) k) rfl).up (x := "other") (v := .ref tr) rfl).up (x := "told") (v := .ref tq) rfl).up (x := "whole") (v := .bool true) rfl
  refine T_pick (.cons .head (.cons R3 .refl)) (t_5 O E (up_ne rfl up_eq) up_eq P5.2.2.2.1 (up_ne rfl (up_ne rfl (up_ne rfl (up_ne rfl q4)))) (.head _) W.back hz fun k9 => h _ k9 P5 [(tq, _), (tr, _), (c, _)])
inductive InvD (B : Bg) (L : Led) (F hd : Addr) (us : List Nat) (P : (Str → Option Value) → Prop) : List Value → Led → Prop
  | mk {f ds rs kvs rest} : P f → StrsAre rest (rs.map nameOf) → us = ds ++ rs → HuesD kvs ds → kvs.length ≤ ds.length → InvD B L F hd us P rest ((F, .nf f) :: (hd, dS B kvs) :: L)
theorem hues_snoc {ds : List Nat} {k : Tok} (H : HuesD kvs ds) (hb : ∀ y ∈ ds, y < 16) (hp : p < 16) : HuesD (stored kvs (nameOf p) (.int p k)) (ds ++ [p]) := by
  refine ⟨stored_nodup _ _ _ H.nd, fun y hy => ?_, fun q hq => ?_, fun ι => stored_ne⟩
  · rw [valueAt_stored _ _ _ _ H.nd]
    by_cases e : nameOf y = nameOf p
    · rw [if_pos e]
      refine (List.mem_append.mp hy).elim (fun h => ?_) fun h => ?_
      · rw [name_inj y (hb y h) p hp e]; exact ⟨_, rfl⟩
      · rw [List.mem_singleton.mp h]; exact ⟨_, rfl⟩
    · rw [if_neg e]
      exact (List.mem_append.mp hy).elim (fun h => H.get y h) fun h => absurd (by rw [List.mem_singleton.mp h]) e
  · exact (stored_mem hq).elim (fun e => ⟨p, k, e⟩) fun e => H.pos q e
theorem c_told (O : Our B) {us : List Nat} {Q : Value → Led → Prop} (hn : (nl, .ls nvs) ∈ L) (hnv : StrsAre nvs flagNames) (hu : (ul, .ls uvs) ∈ L) (huv : StrsAre uvs (us.map nameOf)) (hb : ∀ x ∈ us, x < 16) (hl : us.length ≤ 16)
    (h : ∀ d kvs, (d == sysModules) = false → HuesD kvs us → kvs.length ≤ 1000 → Q (.ref d) ((d, dS B kvs) :: L)) : T B (n + 5) (call (.ref 178) [.ref nl, .ref ul, .int seed t] []) L Q := by
  refine T_weak ?_
  refine T_sdef O 178 [("names", .ref nl), ("used", .ref ul), ("seed", .int seed t)] ["paint", "hues", "name", "place", "share", "level", "value", "again", "told", "other", "sums", "whole"] toldKs
    [("seed", some (.int seed t)), ("used", some (.ref ul)), ("names", some (.ref nl)), ("paint", none), ("hues", none), ("name", none), ("place", none), ("share", none), ("level", none), ("value", none), ("again", none), ("told", none), ("other", none), ("sums", none), ("whole", none)]
    rfl (by kernel_rfl) rfl rfl (by decide) (by rfl) (by decide) rfl (by rfl) rfl rfl rfl rfl rfl rfl ?_
  intro F env E hcode hqual
  replace hcode : env.code = .ref 177 := hcode
  replace hqual : env.qual = "_law_told.<locals>." := hqual
  refine T_nfx (P := fun f => f "names" = some (.ref nl) ∧ f "used" = some (.ref ul) ∧ f "seed" = some (.int seed t)) ⟨rfl, rfl, rfl⟩ fun f P => ?_
  show T B (n + 4) (execs (toldT.drop 0) env) _ _
  refine T_fr rfl ?_
  repeat nest_cls
  refine T_Lambda (clos := ?q0) E O.t4 hcode ?q1 ?q2 ?q3 fun pf cd ct => ?_
  case q0 => exact []
  case q1 => rw [hqual]; rfl
  case q2 => rfl
  case q3 => rfl
  clear hcode hqual
  refine T_hide (q := "_law_told.<locals>.<lambda>") (Paint B pf cd "_law_told.<locals>.<lambda>") ?paint fun fo hpaint => ?_
  case paint =>
    refine ⟨⟨_, rfl⟩, fun p s l r g b hp hs hl hrgb n Lx Q' tp ts tl hm hq => ?_⟩
    clear E
    refine T_weak ?_
    refine T_nlam [("place", .int p tp), ("share", .int s ts), ("level", .int l tl)] [] [("place", .local), ("share", .local), ("level", .local), ("hsv_to_rgb", .globalImplicit)] [("level", some (.int l tl)), ("share", some (.int s ts)), ("place", some (.int p tp))] []
      hm (by kst_allIn) (by kst_allIn) (by kst_allIn) (by kst_allIn) (by kernel_rfl) (by kst_allIn) (by kst_allIn) (by kst_allIn) (by kst_allIn) (of_decide_eq_true rfl) (by kst_allIn) (of_decide_eq_true rfl) (by kst_allIn) (by kst_allIn) (by kst_allIn) (by kst_allIn) (by kst_allIn) fun F₂ env₂ E₂ => ?_
    repeat nest_cls
    refine T_idiv (j := 16) (by decide) (inf_a p (Nat.lt_trans hp (by decide))).1 fun k1 hk1 => ?_
    repeat nest_cls
    refine T_idiv (j := 4) (by decide) (inf_a s (Nat.lt_of_le_of_lt hs (by decide))).2.1 fun k2 hk2 => ?_
    repeat nest_cls
    refine T_idiv (j := 4) (by decide) (inf_a l (Nat.lt_of_le_of_lt hl (by decide))).2.1 fun k3 hk3 => ?_
    repeat nest_cls
    refine c_hsvRgb O hk1 hk2 hk3 hrgb fun c m1 m2 m3 q1 q2 q3 => ?_
    repeat nest_cls
    exact ⟨_, by kct_strs, hq _ _ _ _ q1 q2 q3⟩
  repeat nest_cls
  refine T_Dict0 fun hd hsm => ?_
  repeat nest_cls
  have P0 : TF nl ul pf hd seed t (up (up f "hues" (.ref hd)) "paint" (.ref pf)) := ⟨up_ne rfl (up_ne rfl P.1), up_ne rfl (up_ne rfl P.2.1), up_eq, up_ne rfl up_eq, up_ne rfl (up_ne rfl P.2.2)⟩
  generalize up (up f "hues" (.ref hd)) "paint" (.ref pf) = f0 at P0
  refine T_pick (L' := (F, .nf f0) :: (hd, dS B []) :: (pf, .fn fo cd "_law_told.<locals>.<lambda>") :: L) (by kct_strs) ?_
  refine T_fr rfl (T_s_For (fun ι => rfl) (T_nm E M1 (nm_f (.head _) P0.2.1 (T_iter_ls (J1 (J1 (J1 hu))) fun it => ?_))))
  refine Tc_for_ls (l := ul) (vs := uvs) (InvD B ((pf, .fn fo cd "_law_told.<locals>.<lambda>") :: L) F hd us (TF nl ul pf hd seed t)) ?hm (fun ι ι => rfl) ?turn ?fin .head (.mk (ds := []) P0 huv rfl ⟨List.nodup_nil, fun ι h => (nomatch h), fun ι h => (nomatch h), fun h => absurd rfl h⟩ (Nat.le_refl _))
  case hm => exact fun ι ι I => by cases I; exact J1 (J1 (J1 hu))
  case fin =>
    intro L' I
    cases I with | @mk f' ds rs kvs _ P a b H hk =>
    have hr := strs_nil a
    subst hr
    rw [List.append_nil] at b
    subst b
    exact T_nil (T_fr rfl (T_s_Return (T_nm E M4 (nm_f (.head _) P.2.2.2.1 ⟨_, .skip (.cons .head (.skip .refl)), h hd kvs hsm H (Nat.le_trans hk (Nat.le_trans hl (by decide)))⟩))))
  case turn =>
    intro ia X y rest L' I
    cases I with | @mk f' ds rs kvs _ P a b H hk =>
    refine strs_cons a fun p t' r er ey a' => ?_
    subst er ey
    have hp : p < 16 := hb p (by rw [b]; exact List.mem_append_right _ (.head _))
    have hd' : ∀ y ∈ ds, y < 16 := fun y hy => hb y (by rw [b]; exact List.mem_append_left _ hy)
    have hl' : ds.length ≤ 1000 := Nat.le_trans (by rw [b, List.length_append]; exact Nat.le_add_right _ _) (Nat.le_trans hl (by decide))
    refine T_assignName (T_stf E M5 (.tail .head) ?_)
    refine T_pick (L' := (F, .nf (up f' "name" _)) :: (hd, dS B kvs) :: (ia, X) :: (pf, .fn fo cd "_law_told.<locals>.<lambda>") :: L) (.cons .head (.cons R1 .refl)) ?_
    refine t_turn O E (P.up (x := "name") (v := .str (nameOf p) t') rfl) up_eq (J1 (J1 hn)) hnv hp M1 hpaint (Nat.le_trans hk hl') fun f2 k P2 e => ?_
    refine loop_next ⟨_, .cons (.tail (.tail rem_app)) (.cons R1 (.cons .head pick_app)), .mk (ds := ds ++ [p]) P2 a' (by rw [b, List.append_assoc]; rfl) (hues_snoc H hd' hp) ?_⟩
    rw [List.length_append]
    exact Nat.le_trans (stored_length_le kvs (nameOf p) (.int p k)) (Nat.succ_le_succ hk)
end
section
variable {B : Bg} {n : Nat} {L L' L₁ : Led} {Q : Value → Led → Prop} {a b : Int} {t u : Tok}
theorem c_div2n1n (O : Our B) {u2 : Tok} (h0 : 0 ≤ a) (h1 : a < 16) (h : ∀ r k k', Q (.ref r) ((r, tup [.int 0 k, .int a k']) :: L)) : T B (n + 3) (call (.ref 21) [.int a t, .int 16 u, .int 5 u2] []) L Q := by
  refine T_weak ?_
  refine T_sdef O 21 [("a", .int a t), ("b", .int 16 u), ("n", .int 5 u2)] ["pad", "half_n", "mask", "b1", "b2", "q1", "r", "q2"]
    [("a", .local), ("b", .local), ("n", .local), ("_DIV_LIMIT", .globalImplicit), ("divmod", .globalImplicit)] [("n", some (.int 5 u2)), ("b", some (.int 16 u)), ("a", some (.int a t)), ("pad", none), ("half_n", none), ("mask", none), ("b1", none), ("b2", none), ("q1", none), ("r", none), ("q2", none)]
    rfl (by kernel_rfl) rfl rfl (by decide) (by rfl) (by decide) rfl (by rfl) rfl rfl rfl rfl rfl rfl ?_
  intro F env E hcode hqual
  clear hcode hqual
  refine T_nfx (P := fun f => f "a" = some (.int a t) ∧ f "b" = some (.int 16 u) ∧ f "n" = some (.int 5 u2)) ⟨rfl, rfl, rfl⟩ fun f P => ?_
  have q0 := P.1
  have q1 := P.2.1
  have q2 := P.2.2
  clear P
  obtain ⟨lk, hlim⟩ := gv_LIM O
  repeat nest_cls
  have hb : Builtin.Int.intBits a ≤ 64 := intBits_le_64 (by omega) (by omega)
  refine D_yes (by omega) ?_
  repeat nest_cls
  refine T_divmod (a := a) (b := 16) (by decide) (PyProof.noPylong_small (by decide)) fun r k k' => ?_
  have e1 : a.fdiv 16 = 0 := by rw [Int.fdiv_eq_ediv_of_nonneg _ (by decide)]; omega
  have e2 : a.fmod 16 = a := by rw [Int.fmod_eq_emod_of_nonneg _ (by decide)]; omega
  rw [e1, e2]
  exact ⟨_, by kct_strs, h _ _ _⟩
theorem bits16 {a : Int} (h0 : 0 ≤ a) (h1 : a < 16) : (((Builtin.Int.intBits a : Nat) : Int) + 5 - 1).fdiv 5 = if a = 0 then 0 else 1 := by
  obtain ⟨k, rfl⟩ := Int.eq_ofNat_of_zero_le h0
  exact (by decide +kernel : ∀ k < 16, (((Builtin.Int.intBits ((k : Nat) : Int) : Nat) : Int) + 5 - 1).fdiv 5 = if ((k : Nat) : Int) = 0 then 0 else 1) k (Int.ofNat_lt.mp h1)
set_option tactic.hygienic true in
theorem c_int2digits (O : Our B) {u : Tok} (h0 : 0 ≤ a) (h1 : a < 16) (h : ∀ l, Q (.ref l) ((l, .ls (if a = 0 then [] else [.int a t])) :: L)) : T B (n + 4) (call (.ref 35) [.int a t, .int 5 u] []) L Q := by
  refine T_weak ?_
  refine T_scdef O 35 [("a", .int a t), ("n", .int 5 u)] [("a", .int a t)] [("n", .int 5 u)] []
    [("a", .local), ("n", .cell), ("a_digits", .cell), ("inner", .cell), ("len", .globalImplicit)] [("a", some (.int a t))]
    [("inner", 2, none), ("a_digits", 1, none), ("n", 0, some (.int 5 u))] (fun c => [("inner", c 2), ("a_digits", c 1), ("n", c 0)]) (fun c => [(c 2, .ce none), (c 1, .ce none), (c 0, .ce (some (.int 5 u)))])
    rfl (by kernel_rfl) rfl rfl (by rfl) (by rfl) (by rfl) (by rfl) (fun ι => rfl) (fun ι => rfl) (by decide) rfl (by rfl) (by decide) (by decide) rfl rfl rfl rfl rfl rfl ?_
  intro F env c E hcode hqual
  replace hcode : env.code = .ref 34 := hcode
  replace hqual : env.qual = "_int2digits.<locals>." := hqual
  dsimp only [List.cons_append, List.nil_append] at E ⊢
  repeat nest_cls
  rename_i t1 _ _ _ _ _ _
  rw [bits16 h0 h1]
  refine T_lmul (vs' := if a = 0 then [] else [.int 0 t1]) (by tb_rel) (by split <;> decide) (by split <;> decide) (Nat.le_of_ble_eq_true rfl) (by by_cases e : a = 0 ; { rw [if_pos e, if_pos e]; rfl } ; { rw [if_neg e, if_neg e]; rfl }) fun l => ?_
  repeat nest_cls
  refine T_s_Def (clos := ?q0) E O.t1 hcode ?q1 ?q2 ?q3 ?q4 ?q5 fun f cd ct doc => ?_
  case q1 => exact qual_is E (k := .cell) (by tb_rel) rfl hqual (by decide)
  case q2 => rfl
  case q3 => rfl
  case q4 => exact rfl
  case q5 => rfl
  clear hcode hqual
  have h := h l
  repeat nest_cls
  by_cases ha : a = 0
  · refine D_no (not_not_intro ha) ?_
    repeat nest_cls
    rw [if_pos ha] at h ⊢
    exact ⟨_, by kct_strs, h⟩
  · refine D_yes ha ?_
    rw [if_neg ha] at h ⊢
    repeat nest_cls
    rename_i t2 t3
    show T B (n + 3) (call (.ref f) [.int a t, .int 0 t2, .int 1 t3] []) _ _
    refine T_ndef [("x", .int a t), ("L", .int 0 t2), ("R", .int 1 t3)] ["mid", "shift", "upper", "lower"] [("x", .local), ("L", .local), ("R", .local), ("a_digits", .free)] [("R", some (.int 1 t3)), ("L", some (.int 0 t2)), ("x", some (.int a t)), ("mid", none), ("shift", none), ("upper", none), ("lower", none)] [("n", c 0), ("inner", c 2), ("a_digits", c 1)]
      (by tb_rel) (by kst_allIn) (by kst_allIn) (by kst_allIn) (by kst_allIn) (by kst_allIn) (by kst_allIn) (by kst_allIn) (by kst_allIn) (by kst_allIn) (by kst_allIn) (by kst_allIn) (of_decide_eq_true rfl) (by kst_allIn) (by kst_allIn) (by kst_allIn) (by kst_allIn) (by kst_allIn) fun F₂ env₂ E₂ => ?_
    repeat nest_cls
    refine B_yes rfl ?_
    repeat nest_cls
    rw [show ([Value.int 0 t1].set (Int.toNat 0) (Value.int a t)) = [.int a t] from rfl]
    exact ⟨_, by kct_strs, h⟩
set_option tactic.hygienic true in
theorem c_digits2int (O : Our B) {u : Tok} {d : Addr} {vs : List Value} (hv : vs = [] ∨ ∃ t, vs = [.int 0 t]) (hm : (d, It.ls vs) ∈ L) (h : ∀ k, Q (.int 0 k) L) : T B (n + 4) (call (.ref 42) [.ref d, .int 5 u] []) L Q := by
  refine T_weak ?_
  refine T_scdef O 42 [("digits", .ref d), ("n", .int 5 u)] [] [("digits", .ref d), ("n", .int 5 u)] []
    [("digits", .cell), ("n", .cell), ("inner", .cell), ("len", .globalImplicit)] []
    [("inner", 2, none), ("n", 1, some (.int 5 u)), ("digits", 0, some (.ref d))] (fun c => [("inner", c 2), ("n", c 1), ("digits", c 0)]) (fun c => [(c 2, .ce none), (c 1, .ce (some (.int 5 u))), (c 0, .ce (some (.ref d)))])
    rfl (by kernel_rfl) rfl rfl (by rfl) (by rfl) (by rfl) (by rfl) (fun ι => rfl) (fun ι => rfl) (by decide) rfl (by rfl) (by decide) (by decide) rfl rfl rfl rfl rfl rfl ?_
  intro F env c E hcode hqual
  replace hcode : env.code = .ref 41 := hcode
  replace hqual : env.qual = "_digits2int.<locals>." := hqual
  dsimp only [List.cons_append, List.nil_append] at E ⊢
  refine T_s_Def (clos := ?q0) E O.t2 hcode ?q1 ?q2 ?q3 ?q4 ?q5 fun f cd ct doc => ?_
  case q1 => exact qual_is E (k := .cell) (by tb_rel) rfl hqual (by decide)
  case q2 => rfl
  case q3 => rfl
  case q4 => exact rfl
  case q5 => rfl
  repeat nest_cls
  rcases hv with rfl | ⟨t1, rfl⟩
  · nest_cls
    refine B_no rfl ?_
    repeat nest_cls
    exact ⟨_, by kct_strs, h _⟩
  · nest_cls
    refine B_yes rfl ?_
    repeat nest_cls
    rename_i t2 t3
    show T B (n + 3) (call (.ref f) [.int 0 t2, .int 1 t3] []) _ _
    refine T_ndef [("L", .int 0 t2), ("R", .int 1 t3)] ["mid", "shift"] [("L", .local), ("R", .local), ("digits", .free)] [("R", some (.int 1 t3)), ("L", some (.int 0 t2)), ("mid", none), ("shift", none)] [("n", c 1), ("inner", c 2), ("digits", c 0)]
      (by tb_rel) (by kst_allIn) (by kst_allIn) (by kst_allIn) (by kst_allIn) (by kst_allIn) (by kst_allIn) (by kst_allIn) (by kst_allIn) (by kst_allIn) (by kst_allIn) (by kst_allIn) (of_decide_eq_true rfl) (by kst_allIn) (by kst_allIn) (by kst_allIn) (by kst_allIn) (by kst_allIn) fun F₂ env₂ E₂ => ?_
    repeat nest_cls
    refine B_yes rfl ?_
    repeat nest_cls
    exact ⟨_, by kct_strs, h _⟩
set_option tactic.hygienic true in
theorem c_divmod_pos (O : Our B) {u : Tok} (h0 : 0 ≤ a) (h1 : a < 16) (h : ∀ r k k', Q (.ref r) ((r, tup [.int 0 k, .int a k']) :: L)) : T B (n + 6) (call (.ref 49) [.int a t, .int 16 u] []) L Q := by
  refine T_weak ?_
  refine T_sdef O 49 [("a", .int a t), ("b", .int 16 u)] ["n", "a_digits", "r", "q_digits", "a_digit", "q_digit", "q"]
    [("a", .local), ("b", .local), ("n", .local), ("a_digits", .local), ("r", .local), ("q_digits", .local), ("a_digit", .local), ("q_digit", .local), ("q", .local), ("_int2digits", .globalImplicit), ("_div2n1n", .globalImplicit), ("_digits2int", .globalImplicit), ("reversed", .globalImplicit)]
    [("b", some (.int 16 u)), ("a", some (.int a t)), ("n", none), ("a_digits", none), ("r", none), ("q_digits", none), ("a_digit", none), ("q_digit", none), ("q", none)]
    rfl (by kernel_rfl) rfl rfl (by decide) (by rfl) (by decide) rfl (by rfl) rfl rfl rfl rfl rfl rfl ?_
  intro F env E hcode hqual
  clear hcode hqual
  refine T_nfx (P := fun f => f "a" = some (.int a t) ∧ f "b" = some (.int 16 u)) ⟨rfl, rfl⟩ fun f P => ?_
  have q0 := P.1
  have q1 := P.2
  clear P
  repeat nest_cls
  rw [show ((Builtin.Int.intBits 16 : Nat) : Int) = 5 from by decide +kernel]
  refine c_int2digits O h0 h1 fun l => ?_
  repeat nest_cls
  rename_i tr qd ti it
  by_cases ha : a = 0
  · subst ha
    simp only [if_true]
    rw [show (((([] : List Value).length : Nat) : Int) - 1) = -1 from rfl]
    refine T_iter_rev (by tb_rel) ?_
    refine Tc_un 0 ?_
    refine un_zero ?_
    refine T_end_rev (by tb_start) (by exact List.cons_ne_nil _ _) ?_
    repeat nest_cls
    simp only [List.reverse_nil]
    refine c_digits2int O (.inl rfl) (by tb_rel) fun k => ?_
    repeat nest_cls
    exact ⟨_, by kct_strs, h _ _ _⟩
  · simp only [ha, if_false]
    rw [show (((([Value.int a t] : List Value).length : Nat) : Int) - 1) = ((0 : Nat) : Int) from rfl]
    refine T_iter_rev (by tb_rel) ?_
    refine Tc_un 1 ?_
    refine un_succ ?_
    refine T_next_rev (i := 0) (y := .int a t) (by tb_start) (by tb_rel) rfl ?_
    repeat nest_cls
    rw [show (0 * 2 ^ Int.toNat 5 + a : Int) = a from by omega]
    refine c_div2n1n O h0 h1 fun r k k' => ?_
    repeat nest_cls
    rw [show (((0 : Nat) : Int) - 1) = -1 from rfl]
    refine T_end_rev (by tb_start) (by exact List.cons_ne_nil _ _) ?_
    repeat nest_cls
    rw [show (([] : List Value) ++ [Value.int 0 k]).reverse = [Value.int 0 k] from rfl]
    refine c_digits2int O (.inr ⟨k, rfl⟩) (by tb_rel) fun k => ?_
    repeat nest_cls
    exact ⟨_, by kct_strs, h _ _ _⟩
theorem c_im1 (O : Our B) {u : Tok} (h0 : 0 ≤ a) (h1 : a < 16) (h : ∀ r k k', Q (.ref r) ((r, tup [.int 0 k, .int a k']) :: L)) : T B (n + 7) (call (.ref 56) [.int a t, .int 16 u] []) L Q := by
  refine T_weak ?_
  refine T_sdef O 56 [("a", .int a t), ("b", .int 16 u)] ["q", "r"]
    [("a", .local), ("b", .local), ("q", .local), ("r", .local), ("int_divmod", .globalImplicit), ("_divmod_pos", .globalImplicit)]
    [("b", some (.int 16 u)), ("a", some (.int a t)), ("q", none), ("r", none)]
    rfl (by kernel_rfl) rfl rfl (by decide) (by rfl) (by decide) rfl (by rfl) rfl rfl rfl rfl rfl rfl ?_
  intro F env E hcode hqual
  clear hcode hqual
  refine T_nfx (P := fun f => f "a" = some (.int a t) ∧ f "b" = some (.int 16 u)) ⟨rfl, rfl⟩ fun f P => ?_
  have q0 := P.1
  have q1 := P.2
  clear P
  repeat nest_cls
  refine B_no rfl ?_
  repeat nest_cls
  refine D_no (by decide) ?_
  repeat nest_cls
  refine D_no (by omega) ?_
  repeat nest_cls
  refine c_divmod_pos O h0 h1 fun r k k' => ?_
  repeat nest_cls
  exact ⟨_, by kct_strs, h _ _ _⟩
theorem c_im2 (O : Our B) {u : Tok} (h0 : a < 0) (h1 : -16 ≤ a) (h : ∀ r k k', Q (.ref r) ((r, tup [.int (-1) k, .int (16 + a) k']) :: L)) : T B (n + 8) (call (.ref 56) [.int a t, .int 16 u] []) L Q := by
  refine T_weak ?_
  refine T_sdef O 56 [("a", .int a t), ("b", .int 16 u)] ["q", "r"]
    [("a", .local), ("b", .local), ("q", .local), ("r", .local), ("int_divmod", .globalImplicit), ("_divmod_pos", .globalImplicit)]
    [("b", some (.int 16 u)), ("a", some (.int a t)), ("q", none), ("r", none)]
    rfl (by kernel_rfl) rfl rfl (by decide) (by rfl) (by decide) rfl (by rfl) rfl rfl rfl rfl rfl rfl ?_
  intro F env E hcode hqual
  clear hcode hqual
  refine T_nfx (P := fun f => f "a" = some (.int a t) ∧ f "b" = some (.int 16 u)) ⟨rfl, rfl⟩ fun f P => ?_
  have q0 := P.1
  have q1 := P.2
  clear P
  repeat nest_cls
  refine B_no rfl ?_
  repeat nest_cls
  refine D_no (by decide) ?_
  repeat nest_cls
  refine D_yes (by omega) ?_
  repeat nest_cls
  rw [show Builtin.bitNot a = -a - 1 from by unfold Builtin.bitNot; omega]
  refine c_im1 (a := -a - 1) O (by omega) (by omega) fun r k k' => ?_
  repeat nest_cls
  rw [show Builtin.bitNot 0 = -1 from rfl, show (16 + Builtin.bitNot (-a - 1) : Int) = 16 + a from by unfold Builtin.bitNot; omega]
  exact ⟨_, by kct_strs, h _ _ _⟩
theorem c_im3 (O : Our B) {u : Tok} (h0 : a ≤ 0) (h1 : -16 < a) (h : ∀ r k k', Q (.ref r) ((r, tup [.int 0 k, .int a k']) :: L)) : T B (n + 9) (call (.ref 56) [.int a t, .int (-16) u] []) L Q := by
  refine T_weak ?_
  refine T_sdef O 56 [("a", .int a t), ("b", .int (-16) u)] ["q", "r"]
    [("a", .local), ("b", .local), ("q", .local), ("r", .local), ("int_divmod", .globalImplicit), ("_divmod_pos", .globalImplicit)]
    [("b", some (.int (-16) u)), ("a", some (.int a t)), ("q", none), ("r", none)]
    rfl (by kernel_rfl) rfl rfl (by decide) (by rfl) (by decide) rfl (by rfl) rfl rfl rfl rfl rfl rfl ?_
  intro F env E hcode hqual
  clear hcode hqual
  refine T_nfx (P := fun f => f "a" = some (.int a t) ∧ f "b" = some (.int (-16) u)) ⟨rfl, rfl⟩ fun f P => ?_
  have q0 := P.1
  have q1 := P.2
  clear P
  repeat nest_cls
  refine B_no rfl ?_
  repeat nest_cls
  refine D_yes (by decide) ?_
  repeat nest_cls
  rw [show (-(-16) : Int) = 16 from rfl]
  refine c_im1 (a := -a) O (by omega) (by omega) fun r k k' => ?_
  repeat nest_cls
  rw [Int.neg_neg]
  exact ⟨_, by kct_strs, h _ _ _⟩
theorem c_im4 (O : Our B) {u : Tok} (h0 : 0 < a) (h1 : a ≤ 16) (h : ∀ r k k', Q (.ref r) ((r, tup [.int (-1) k, .int (a - 16) k']) :: L)) : T B (n + 9) (call (.ref 56) [.int a t, .int (-16) u] []) L Q := by
  refine T_weak ?_
  refine T_sdef O 56 [("a", .int a t), ("b", .int (-16) u)] ["q", "r"]
    [("a", .local), ("b", .local), ("q", .local), ("r", .local), ("int_divmod", .globalImplicit), ("_divmod_pos", .globalImplicit)]
    [("b", some (.int (-16) u)), ("a", some (.int a t)), ("q", none), ("r", none)]
    rfl (by kernel_rfl) rfl rfl (by decide) (by rfl) (by decide) rfl (by rfl) rfl rfl rfl rfl rfl rfl ?_
  intro F env E hcode hqual
  clear hcode hqual
  refine T_nfx (P := fun f => f "a" = some (.int a t) ∧ f "b" = some (.int (-16) u)) ⟨rfl, rfl⟩ fun f P => ?_
  have q0 := P.1
  have q1 := P.2
  clear P
  repeat nest_cls
  refine B_no rfl ?_
  repeat nest_cls
  refine D_yes (by decide) ?_
  repeat nest_cls
  rw [show (-(-16) : Int) = 16 from rfl]
  refine c_im2 (a := -a) O (by omega) (by omega) fun r k k' => ?_
  repeat nest_cls
  rw [show (-(16 + -a) : Int) = a - 16 from by omega]
  exact ⟨_, by kct_strs, h _ _ _⟩
end
noncomputable def wheelOf (W : Bool) : Int := if W = true then -16 else 16
noncomputable def qOf (W : Bool) (w h : Nat) : Int := if W = true then (if w ≤ h then 0 else -1) else (if h ≤ w then 0 else -1)
noncomputable def wayOf (W : Bool) (w h : Nat) : Int := if W = true then (if w ≤ h then (w : Int) - h else (w : Int) - h - 16) else (if h ≤ w then (w : Int) - h else 16 + ((w : Int) - h))
noncomputable def distOf (W : Bool) (w h : Nat) : Int := if W = true then (if w ≤ h then (h : Int) - w else 16 - ((w : Int) - h)) else (if h ≤ w then (w : Int) - h else 16 + ((w : Int) - h))
theorem way_sum (W : Bool) (w h : Nat) : wheelOf W * qOf W w h + wayOf W w h = (w : Int) - h := by
  unfold wheelOf qOf wayOf
  cases W <;> simp <;> split <;> omega
theorem way_abs (W : Bool) {w h : Nat} (hw : w < 16) (hh : h < 16) : ((wayOf W w h).natAbs : Int) = distOf W w h := by
  unfold wayOf distOf
  cases W <;> simp <;> split <;> omega
theorem dist_inj (W : Bool) {w h g : Nat} (hw : w < 16) (hh : h < 16) (hg : g < 16) (e : distOf W w h = distOf W w g) : h = g := by
  unfold distOf at e
  cases W <;> simp at e <;> split at e <;> split at e <;> omega
noncomputable def keyT (W : Bool) (w h : Nat) : Int × Int × Str := (distOf W w h, qOf W w h, nameOf h)
section
variable {B : Bg} {n : Nat} {L L' L₁ L₂ : Led} {Q : Value → Led → Prop} {a b : Int} {t u : Tok} {vs : List Value}
theorem c_im (O : Our B) (W : Bool) {w h : Nat} {u : Tok} (hw : w < 16) (hh : h < 16) (hq : ∀ r k k', Q (.ref r) ((r, tup [.int (qOf W w h) k, .int (wayOf W w h) k']) :: L)) : T B (n + 9) (call (.ref 56) [.int ((w : Int) - h) t, .int (wheelOf W) u] []) L Q := by
  unfold wheelOf
  unfold qOf wayOf at hq
  cases W with
  | false =>
    rw [if_neg Bool.false_ne_true]
    simp only [Bool.false_eq_true, if_false] at hq
    by_cases e : h ≤ w
    · simp only [e, if_true] at hq
      exact c_im1 O (by omega) (by omega) hq
    · simp only [e, if_false] at hq
      exact c_im2 O (by omega) (by omega) hq
  | true =>
    rw [if_pos rfl]
    simp only [if_true] at hq
    by_cases e : w ≤ h
    · simp only [e, if_true] at hq
      exact c_im3 O (by omega) (by omega) hq
    · simp only [e, if_false] at hq
      exact c_im4 O (by omega) (by omega) hq
end
inductive PassR (W : Bool) : List Nat → List Nat → List Nat → Int → List Nat → Prop
  | nil {hs} : PassR W hs [] [] 0 hs
  | cons {hs w bs b g gs t hs'} : Best (hs.map (keyT W w)) hs.length b → hs[b]? = some g → PassR W (hs.eraseIdx b) bs gs t hs' → PassR W hs (w :: bs) (g :: gs) (t - qOf W w g) hs'
theorem name_ok : ∀ i < 16, PyData.strOk (nameOf i) = true := by decide +kernel
noncomputable abbrev passKs : List (Str × NameKind) := [("line", .local), ("held", .local), ("box", .local), ("hues", .local), ("wheel", .local), ("given", .local), ("turns", .local), ("word", .local), ("waiting", .local), ("name", .local), ("apart", .local), ("quotient", .local), ("way", .local), ("best", .local), ("int_divmod", .globalImplicit), ("abs", .globalImplicit), ("min", .globalImplicit)]
noncomputable def passT : List Stmt := fnB (stAt 24)
noncomputable def passW : List Stmt := forB (nB passT 1)
noncomputable def passN : List Stmt := forB (nB passW 1)
section
variable {B : Bg} {n : Nat} {L : Led} {env : Env} {F x dx p hl bl hd wl gl : Addr} {f : Str → Option Value} {o : Obj} {m : List (Str × Option Value)} {W : Bool} {g w : Nat} {t t1 t2 t3 u : Tok} {kvs : List (Str × Value)} {Q : Flow → Led → Prop} {vh wvs gv pvs hvs : List Value} {hs us : List Nat}
set_option maxHeartbeats 4000000
theorem p_t0 (E : EnvIs env passKs F []) (e1 : f "hues" = some (.ref hd)) (e2 : f "word" = some (.str (nameOf w) t)) (e3 : f "name" = some (.str (nameOf g) u)) (hk : (hd, dS B kvs) ∈ L) (hw : valueAt kvs (nameOf w) = some (.int w t1)) (hg : valueAt kvs (nameOf g) = some (.int g t2))
    (h : ∀ t, T B n (execs (passN.drop 1) env) ((F, .nf (up f "apart" (.int ((w : Int) - g) t))) :: L) Q) : T B n (execs (passN.drop 0) env) ((F, .nf f) :: L) Q := by
  refine T_fr rfl ?_
  repeat nest_cls
  refine T_dget (by tb_rel) hw rfl ?_
  repeat nest_cls
  refine T_dget (by tb_rel) hg rfl ?_
  repeat nest_cls
  exact h _
theorem p_t1 (O : Our B) (E : EnvIs env passKs F []) (e1 : f "apart" = some (.int ((w : Int) - g) t)) (e2 : f "wheel" = some (.int (wheelOf W) u)) (hw : w < 16) (hg : g < 16)
    (h : ∀ k1 k2, T B (n + 9) (execs (passN.drop 2) env) ((F, .nf (up (up f "quotient" (.int (qOf W w g) k1)) "way" (.int (wayOf W w g) k2))) :: L) Q) : T B (n + 9) (execs (passN.drop 1) env) ((F, .nf f) :: L) Q := by
  refine T_fr rfl ?_
  repeat nest_cls
  refine c_im O W hw hg fun rt k1 k2 => ?_
  repeat nest_cls
  exact T_pick (by kct_strs) (h _ _)
theorem p_t2 (O : Our B) (E : EnvIs env passKs F []) (e1 : f "line" = some (.ref x)) (e2 : f "wheel" = some (.int (wheelOf W) u)) (e3 : f "quotient" = some (.int (qOf W w g) t1)) (e4 : f "way" = some (.int (wayOf W w g) t2)) (e5 : f "name" = some (.str (nameOf g) t3)) (e6 : f "apart" = some (.int ((w : Int) - g) t))
    (ho : InstOb o 153 dx) (hne : dx ≠ x) (hv : m.lookup ("pushback" : Str) = some (some (Value.ref p))) (hsh1 : (m.lookup ("get_token" : Str)).join = none) (hx : (x, .ob o) ∈ L) (hdx : (dx, dn m) ∈ L) (hg : g < 16) (hz : vh.length ≤ 90)
    (h : T B (n + 9) (execs (passN.drop 3) env) ((F, .nf f) :: (p, .ls vh) :: L) Q) {tv : Tok} : T B (n + 9) (execs (passN.drop 2) env) ((F, .nf f) :: (p, .ls (.str (nameOf g) tv :: vh)) :: L) Q := by
  refine T_fr rfl ?_
  repeat nest_cls
  refine ⟨_, cal_get O (by tb_rel) (by tb_rel) ho hne hsh1, kp_143 O, ?_⟩
  refine c_get1 O ho hne hv (by tb_start) (by tb_rel) (by tb_rel) (Nat.le_trans hz (by decide)) ?_
  repeat nest_cls
  refine T_mulS (by unfold wheelOf; cases W <;> decide) fun k3 => ?_
  repeat nest_cls
  rw [way_sum]
  refine T_nePair (by tb_rel) (by tb_rel) (name_ok g hg) (name_ok g hg) (Nat.succ_le_of_lt (Nat.succ_pos _)) ?_
  rw [show (!(nameOf g == nameOf g && ((w : Int) - g) == ((w : Int) - g))) = false from by rw [beq_self_eq_true, beq_self_eq_true]; rfl]
  repeat nest_cls
  exact T_pick (by kct_strs) h
theorem p_t3 (O : Our B) (E : EnvIs env passKs F []) (e1 : f "waiting" = some (.ref wl)) (e3 : f "quotient" = some (.int (qOf W w g) t1)) (e4 : f "way" = some (.int (wayOf W w g) t2)) (e5 : f "name" = some (.str (nameOf g) t3)) (hw : w < 16) (hg : g < 16) (hz : wvs.length ≤ 100)
    (h : ∀ tq k, Q .next ((wl, .ls (wvs ++ [.ref tq])) :: (tq, tup [.int (distOf W w g) k, .int (qOf W w g) t1, .str (nameOf g) t3]) :: (F, .nf f) :: L)) : T B (n + 9) (execs (passN.drop 3) env) ((F, .nf f) :: (wl, .ls wvs) :: L) Q := by
  refine T_fr rfl ?_
  repeat nest_cls
  rw [way_abs W hw hg]
  refine T_append (by tb_start) (szl (Nat.le_trans hz (by decide))) ?_
  repeat nest_cls
  exact T_nl rfl (h _ _)
noncomputable def PF (x hl bl hd : Addr) (W : Bool) (u : Tok) (f : Str → Option Value) : Prop := f "line" = some (.ref x) ∧ f "held" = some (.ref hl) ∧ f "box" = some (.ref bl) ∧ f "hues" = some (.ref hd) ∧ f "wheel" = some (.int (wheelOf W) u)
theorem PF.kept {ns : List Str} {f' : Str → Option Value} (k : Kept ns f f') (P : PF x hl bl hd W u f) (h : ((["line", "held", "box", "hues", "wheel"] : List Str).all fun y => !(ns.contains y)) = true) : PF x hl bl hd W u f' := by
  have h' : ∀ y ∈ (["line", "held", "box", "hues", "wheel"] : List Str), ns.contains y = false := fun y hy => Bool.not_eq_true' _ ▸ List.all_eq_true.mp h y hy
  exact ⟨kept_ap k (h' _ (.head _)) P.1, kept_ap k (h' _ M1) P.2.1, kept_ap k (h' _ M2) P.2.2.1, kept_ap k (h' _ M3) P.2.2.2.1, kept_ap k (h' _ M4) P.2.2.2.2⟩
theorem ar1 {a b c d : Nat} (h : a + b = c) (h2 : c ≤ 20) (h3 : d ≤ c) : a + d ≤ 60 := by omega
theorem ar2 {a b c : Nat} (h : a + b = c) (h2 : c ≤ 20) : a ≤ 20 := Nat.le_trans (h ▸ Nat.le_add_right _ _) h2
theorem ar3 {a b c : Nat} (h : a + b = c) (h2 : c ≤ 20) : b ≤ 20 := Nat.le_trans (h ▸ Nat.le_add_left _ _) h2
theorem ar4 {a b c : Nat} (h : a + b = c) (h2 : 0 < a) : a - 1 + (b + 1) = c := by omega
theorem ar5 {a b c d : Nat} (h : c = a + b) (h2 : d + c ≤ 60) : d + a ≤ 100 := by omega
theorem ar6 {d l z : Nat} (h : d + (l + 1) ≤ 20) : d ≤ 100 ∧ l ≤ 90 := by omega
theorem ar7 {t q s : Int} : t - q + s = t + (s - q) := by omega
inductive InvA (W : Bool) (L : Led) (F p wl : Addr) (w : Nat) (hs : List Nat) (f : Str → Option Value) : List Value → Led → Prop
  | mk {f' dl rs pv wv tl rest} : Kept ["name", "apart", "quotient", "way"] f f' → StrsAre rest (rs.map nameOf) → StrsAre pv (rs.map nameOf) → hs = dl ++ rs → Tris tl wv (dl.map (keyT W w)) → InvA W L F p wl w hs f rest ((F, .nf f') :: (p, .ls pv) :: (wl, .ls wv) :: (tl ++ L))
inductive InvB (L : Led) (F p hl : Addr) (hs bs : List Nat) (f : Str → Option Value) : List Value → Led → Prop
  | mk {f' dl rs pv hv rest} : Kept ["word"] f f' → StrsAre rest (rs.map nameOf) → bs = dl ++ rs → StrsAre pv ((hs ++ dl).map nameOf) → StrsAre hv ((hs ++ dl).map nameOf) → InvB L F p hl hs bs f rest ((F, .nf f') :: (p, .ls pv) :: (hl, .ls hv) :: L)
inductive InvC (W : Bool) (L : Led) (F p hl gl : Addr) (hs bs us : List Nat) (P : (Str → Option Value) → Prop) : List Value → Led → Prop
  | mk {f' hs₁ ws gs pv hv gv tn tk rest} : P f' → f' "given" = some (.ref gl) → f' "turns" = some (.int tn tk) → StrsAre rest (ws.map nameOf) → StrsAre pv (hs₁.map nameOf) → StrsAre hv (hs₁.map nameOf) → StrsAre gv (gs.map nameOf) → (∀ gs' tn' hs', PassR W hs₁ ws gs' tn' hs' → PassR W hs bs (gs ++ gs') (tn + tn') hs') →
      (∀ y ∈ hs₁, y ∈ us ∧ y < 16) → (∀ y ∈ ws, y ∈ us ∧ y < 16) → ws.length ≤ hs₁.length → hs₁.length + gs.length = hs.length → InvC W L F p hl gl hs bs us P rest ((F, .nf f') :: (p, .ls pv) :: (hl, .ls hv) :: (gl, .ls gv) :: L)
theorem p_for1 (O : Our B) (E : EnvIs env passKs F []) (P : PF x hl bl hd W u f) (e1 : f "word" = some (.str (nameOf w) t)) (e2 : f "waiting" = some (.ref wl))
    (ho : InstOb o 153 dx) (hne : dx ≠ x) (hv : m.lookup ("pushback" : Str) = some (some (Value.ref p))) (hsh1 : (m.lookup ("get_token" : Str)).join = none) (hx : (x, .ob o) ∈ L) (hdx : (dx, dn m) ∈ L) (hk : (hd, dS B kvs) ∈ L) (hH : HuesD kvs us) (hh : (hl, .ls hvs) ∈ L)
    (hw : w ∈ us ∧ w < 16) (hp : StrsAre pvs (hs.map nameOf)) (hhv : StrsAre hvs (hs.map nameOf)) (hsu : ∀ y ∈ hs, y ∈ us ∧ y < 16) (hz : hs.length ≤ 20)
    (h : ∀ f' wvs tl, Kept ["name", "apart", "quotient", "way"] f f' → Tris tl wvs (hs.map (keyT W w)) → T B (n + 9) (execs (passW.drop 2) env) ((F, .nf f') :: (p, .ls []) :: (wl, .ls wvs) :: (tl ++ L)) Q) :
    T B (n + 9) (execs (passW.drop 1) env) ((F, .nf f) :: (p, .ls pvs) :: (wl, .ls []) :: L) Q := by
  refine T_fr rfl (T_s_For (fun ι => rfl) (T_nm E M1 (nm_f (.head _) P.2.1 (T_iter_ls (J1 (J1 (J1 hh))) fun it => ?_))))
  refine Tc_for_ls (l := hl) (vs := hvs) (InvA W L F p wl w hs f) ?hm (fun ι ι => rfl) ?turn ?fin .head (.mk (dl := []) (tl := []) Kept.refl hhv hp rfl ⟨rfl, fun i x e => (nomatch e), fun ι hx => (nomatch hx)⟩)
  case hm => exact fun ι ι I => by cases I; exact J1 (J1 (J1 (List.mem_append_right _ hh)))
  case fin =>
    intro L' I
    cases I with | @mk f' dl rs pv wv tl _ k a b c d =>
    have hr := strs_nil a
    subst hr
    rw [List.append_nil] at c
    cases b
    exact T_nil (h f' wv tl k (c ▸ d))
  case turn =>
    intro ia X y rest L' I
    cases I with | @mk f' dl rs pv wv tl _ k a b c d =>
    refine strs_cons a fun g t' r er ey a' => ?_
    subst er ey
    refine strs_of b fun t2 vh ev b' => ?_
    subst ev
    have hg := hsu g (by rw [c]; exact List.mem_append_right _ (.head _))
    refine (hH.get w hw.1).elim fun s1 h1 => (hH.get g hg.1).elim fun s2 h2 => ?_
    have hl1 : dl.length + (r.length + 1) ≤ 20 := by rw [c, List.length_append] at hz; exact hz
    have P' := P.kept k rfl
    have sl : Sub L (tl ++ L) := fun p hp => List.mem_append_right _ hp
    refine T_assignName (T_stf E (J8 M1) (.tail .head) ?_)
    refine p_t0 E (up_ne rfl P'.2.2.2.1) (up_ne rfl (kept_ap k rfl e1)) up_eq (J1 (J1 (J1 (sl _ hk)))) h1 h2 fun t3 => ?_
    refine p_t1 O E up_eq (up_ne rfl (up_ne rfl P'.2.2.2.2)) hw.2 hg.2 fun k1 k2 => ?_
    have q1 := P'.1
    have q5 := P'.2.2.2.2
    have q6 := kept_ap (x := "waiting") k rfl e2
    refine T_pick (L' := (F, .nf _) :: (p, .ls (.str (nameOf g) t2 :: vh)) :: (ia, X) :: (wl, .ls wv) :: (tl ++ L)) (.cons .head (.cons R1 .refl)) (p_t2 O E (by kt_len) (by kt_len) (by kt_len) up_eq (by kt_len) (by kt_len) ho hne hv hsh1 (J1 (J1 (sl _ hx))) (J1 (J1 (sl _ hdx))) hg.2 (by rw [strs_len b']; exact (ar6 (z := 0) hl1).2) ?_)
    have lw := d.len
    rw [List.length_map] at lw
    refine T_pick (L' := (F, .nf _) :: (wl, .ls wv) :: (p, .ls vh) :: (ia, X) :: (tl ++ L)) (.cons .head (.cons R2 .refl)) (p_t3 O E (by kt_len) (by kt_len) up_eq (by kt_len) hw.2 hg.2 (lw ▸ (ar6 (z := 0) hl1).1) fun tq k4 => loop_next ⟨_, .cons R4 (.cons R2 (.cons R2 (.cons .head .refl))), .mk (dl := dl ++ [g]) (tl := (tq, _) :: tl) (kept_up (by tb_rel) (kept_up (by tb_rel) (kept_up (by tb_rel) (kept_up (by tb_rel) k)))) a' b' (by rw [c, List.append_assoc]; rfl) ?_⟩)
    rw [List.map_append]
    refine d.snoc (x := keyT W w g) fun y hy e => ?_
    obtain ⟨g', h1, rfl⟩ := List.mem_map.mp hy
    rw [dist_inj W hw.2 (hsu g' (by rw [c]; exact List.mem_append_left _ h1)).2 hg.2 e]
theorem p_best (O : Our B) (E : EnvIs env passKs F []) (e1 : f "waiting" = some (.ref wl)) (e2 : f "held" = some (.ref hl)) (hw : (wl, .ls wvs) ∈ L) {tl : Led} (hT : Tris tl wvs (hs.map (keyT W w))) (hsub : Sub tl L) (hne : hs ≠ []) (hh : StrsAre hvs (hs.map nameOf)) (hs16 : ∀ y ∈ hs, y < 16) (hz : hs.length ≤ 20)
    (h : ∀ bi g ab u1 u2 u3, Best (hs.map (keyT W w)) hs.length bi → hs[bi]? = some g → (ab, tup [.int (distOf W w g) u1, .int (qOf W w g) u2, .str (nameOf g) u3]) ∈ tl → T B (n + 9) (execs (passW.drop 4) env) ((F, .nf (up f "best" (.ref ab))) :: (hl, .ls (hvs.eraseIdx bi)) :: L) Q) :
    T B (n + 9) (execs (passW.drop 2) env) ((F, .nf f) :: (hl, .ls hvs) :: L) Q := by
  refine T_fr rfl ?_
  repeat nest_cls
  refine T_minTup (by tb_rel) (hT.mono fun q hq => .tail _ (.tail _ (hsub q hq))) (fun e => hne (List.map_eq_nil_iff.mp e)) fun bi vb hB hvb => ?_
  rw [List.length_map] at hB
  have hg := List.getElem?_eq_getElem hB.1
  generalize hs[bi]'hB.1 = g at hg
  have hk : (hs.map (keyT W w))[bi]? = some (keyT W w g) := by rw [List.getElem?_map, hg]; rfl
  refine (hT.at_ bi _ hk).elim fun ab k => k.elim fun u1 k => k.elim fun u2 k => k.elim fun u3 k => ?_
  rw [k.1] at hvb
  cases hvb
  have mb : (ab, tup [.int (distOf W w g) u1, .int (qOf W w g) u2, .str (nameOf g) u3]) ∈ L := hsub _ k.2
  repeat nest_cls
  refine T_fr rfl ?_
  repeat nest_cls
  have hne16 : g < 16 := hs16 g (List.mem_of_getElem? hg)
  refine T_removeStr (j := bi) (by tb_start) hh (by rw [List.getElem?_map, hg]; rfl) (fun j hm e => ?_) (szl (by rw [strs_len hh]; omega)) ?_
  · have hml : j < hs.length := Nat.lt_trans hm hB.1
    rw [List.getElem?_map, List.getElem?_eq_getElem hml] at e
    have e3 := name_inj _ (hs16 _ (List.getElem_mem hml)) _ hne16 (Option.some.inj e)
    refine hB.2.elim fun x hx => ?_
    have := hx.2.2 j (keyT W w hs[j]) hm (by rw [List.getElem?_map, List.getElem?_eq_getElem hml]; rfl)
    rw [e3, Option.some.inj (hx.1.symm.trans hk)] at this
    exact absurd this (Int.lt_irrefl _)
  · repeat nest_cls
    exact T_pick (by kct_strs) (h bi g ab u1 u2 u3 hB hg k.2)
theorem p_end (E : EnvIs env passKs F []) {ab : Addr} {tn d : Int} {q : Int} (e1 : f "given" = some (.ref gl)) (e2 : f "best" = some (.ref ab)) (e3 : f "turns" = some (.int tn t)) (hm : (ab, tup [.int d t1, .int q t2, .str (nameOf g) t3]) ∈ L) (hz : gv.length ≤ 20)
    (h : ∀ k, Q .next ((F, .nf (up f "turns" (.int (tn - q) k))) :: (gl, .ls (gv ++ [.str (nameOf g) t3])) :: L)) : T B (n + 9) (execs (passW.drop 5) env) ((F, .nf f) :: (gl, .ls gv) :: L) Q := by
  refine T_fr rfl ?_
  repeat nest_cls
  refine T_append (by tb_start) (szl (Nat.le_trans hz (by decide))) ?_
  repeat nest_cls
  refine T_fr rfl ?_
  repeat nest_cls
  exact T_nl rfl (h _)
theorem p_word (O : Our B) (E : EnvIs env passKs F []) {tn : Int} (P : PF x hl bl hd W u f) (e1 : f "word" = some (.str (nameOf w) t)) (e2 : f "given" = some (.ref gl)) (e3 : f "turns" = some (.int tn t1))
    (ho : InstOb o 153 dx) (hne : dx ≠ x) (hv : m.lookup ("pushback" : Str) = some (some (Value.ref p))) (hsh1 : (m.lookup ("get_token" : Str)).join = none) (hsh2 : (m.lookup ("push_token" : Str)).join = none) (hx : (x, .ob o) ∈ L) (hdx : (dx, dn m) ∈ L) (hk : (hd, dS B kvs) ∈ L) (hH : HuesD kvs us)
    (hw : w ∈ us ∧ w < 16) (hp : StrsAre pvs (hs.map nameOf)) (hhv : StrsAre hvs (hs.map nameOf)) (hsu : ∀ y ∈ hs, y ∈ us ∧ y < 16) (hz : hs.length ≤ 20) (hne2 : hs ≠ []) (hzg : gv.length ≤ 20)
    (h : ∀ f' bi g e u3 k pv', Best (hs.map (keyT W w)) hs.length bi → hs[bi]? = some g → Kept ["name", "apart", "quotient", "way", "waiting", "best", "turns"] f f' → f' "turns" = some (.int (tn - qOf W w g) k) → StrsAre pv' ((hs.eraseIdx bi).map nameOf) → 
      Q .next ((F, .nf f') :: (p, .ls pv') :: (hl, .ls (hvs.eraseIdx bi)) :: (gl, .ls (gv ++ [.str (nameOf g) u3])) :: (e ++ L))) :
    T B (n + 9) (execs (passW.drop 0) env) ((F, .nf f) :: (p, .ls pvs) :: (hl, .ls hvs) :: (gl, .ls gv) :: L) Q := by
  refine T_fr rfl (T_s_Assign rfl (T_List (T_items_nil ⟨Nat.zero_le _, fun wl => T_stf E (J8 (.head _)) (.tail .head) ?_⟩)))
  have P1 : PF x hl bl hd W u (up f "waiting" (.ref wl)) := P.kept (ns := ["waiting"]) (kept_up (.head _) Kept.refl) rfl
  have sub : ∀ {M : Led}, Sub L (M ++ L) := fun p hp => List.mem_append_right _ hp
  refine T_pick (L' := (F, .nf (up f "waiting" (.ref wl))) :: (p, .ls pvs) :: (wl, .ls []) :: ([(hl, .ls hvs), (gl, .ls gv)] ++ L)) (.cons .head (.cons R1 .refl))
    (p_for1 O E P1 (up_ne rfl e1) up_eq ho hne hv hsh1 (sub _ hx) (sub _ hdx) (sub _ hk) hH (.head _) hw hp hhv hsu hz fun f2 wvs tl k2 T2 => ?_)
  have P2 := P1.kept k2 rfl
  refine T_pick (L' := (F, .nf f2) :: (hl, .ls hvs) :: ((p, .ls []) :: (gl, .ls gv) :: (wl, .ls wvs) :: (tl ++ L))) (.cons .head (.cons (.tail (.tail rem_app)) (.cons .head (.cons (.tail rem_app) .refl))))
    (p_best O E (kept_ap k2 rfl up_eq) P2.2.1 (.tail _ (.tail _ (.head _))) T2 (fun q hq => .tail _ (.tail _ (.tail _ (List.mem_append_left _ hq)))) hne2 hhv (fun y hy => (hsu y hy).2) hz fun bi g ab u1 u2 u3 hB hg mb => ?_)
  have P3 : PF x hl bl hd W u (up f2 "best" (.ref ab)) := P2.kept (ns := ["best"]) (kept_up (.head _) Kept.refl) rfl
  have sub3 : ∀ {M : Led} {a b c : Addr × It}, Sub L (a :: b :: c :: (M ++ L)) := fun p hp => J1 (J1 (J1 (List.mem_append_right _ hp)))
  have hE : StrsAre (hvs.eraseIdx bi) ((hs.eraseIdx bi).map nameOf) := map_erase nameOf hs bi ▸ strsAre_erase hhv bi
  have hlE : (hs.eraseIdx bi).length ≤ 20 := Nat.le_trans (List.length_eraseIdx_le ..) hz
  refine T_pick (L' := (F, .nf (up f2 "best" (.ref ab))) :: (p, .ls []) :: ((hl, .ls (hvs.eraseIdx bi)) :: (gl, .ls gv) :: (wl, .ls wvs) :: (tl ++ L))) (.cons .head (.cons R1 .refl))
    (T_fr rfl (s_push' (n := n + 4) O (pre := []) (a := hs.eraseIdx bi) E (J8 M1) rfl rfl (fun ι => rfl) (ev_f E M1 P3.2.1) (fun f' G k s => ev_f E (.head _) (kept_ap k rfl P3.1)) ho hne (sub3 _ hx) (sub3 _ hdx) hv hsh2 (.head _) hE .nil (by rw [List.length_nil]; omega) fun f4 pv' k4 hpv => ?_))
  refine T_pick (L' := (F, .nf f4) :: (gl, .ls gv) :: ((p, .ls pv') :: (hl, .ls (hvs.eraseIdx bi)) :: (wl, .ls wvs) :: (tl ++ L))) (.cons .head (.cons R2 .refl))
    (T_weak (p_end E (kept_ap k4 rfl (up_ne rfl (kept_ap k2 rfl (up_ne rfl e2)))) (kept_ap k4 rfl up_eq) (kept_ap k4 rfl (up_ne rfl (kept_ap k2 rfl (up_ne rfl e3)))) (J1 (J1 (J1 (List.mem_append_left _ mb)))) hzg fun k => ⟨_, .cons .head (.cons R1 (.cons R1 (.cons .head .refl))), h (up f4 "turns" _) bi g ((wl, .ls wvs) :: tl) u3 k pv' hB hg ?_ up_eq hpv⟩))
  exact kept_up (by tb_rel) ((kept_up (by tb_rel) ((kept_up (by tb_rel) Kept.refl).trans (kept_wide k2 rfl))).trans (kept_wide k4 rfl))
theorem p_last (O : Our B) (E : EnvIs env passKs F []) {bs : List Nat} {bvs : List Value} (P : PF x hl bl hd W u f) (ho : InstOb o 153 dx) (hne : dx ≠ x) (hv : m.lookup ("pushback" : Str) = some (some (Value.ref p))) (hsh2 : (m.lookup ("push_token" : Str)).join = none) (hx : (x, .ob o) ∈ L) (hdx : (dx, dn m) ∈ L) (hb : (bl, .ls bvs) ∈ L)
    (hbv : StrsAre bvs (bs.map nameOf)) (hp : StrsAre pvs (hs.map nameOf)) (hhv : StrsAre hvs (hs.map nameOf)) (hz : hs.length + bs.length ≤ 60)
    (h : ∀ f' pv' hv', Kept ["word"] f f' → StrsAre pv' ((hs ++ bs).map nameOf) → StrsAre hv' ((hs ++ bs).map nameOf) → T B (n + 9) (execs (passT.drop 3) env) ((F, .nf f') :: (p, .ls pv') :: (hl, .ls hv') :: L) Q) :
    T B (n + 9) (execs (passT.drop 2) env) ((F, .nf f) :: (p, .ls pvs) :: (hl, .ls hvs) :: L) Q := by
  refine T_fr rfl (T_s_For (fun ι => rfl) (T_nm E M2 (nm_f (.head _) P.2.2.1 (T_iter_ls (J1 (J1 (J1 hb))) fun it => ?_))))
  refine Tc_for_ls (l := bl) (vs := bvs) (InvB L F p hl hs bs f) ?hm (fun ι ι => rfl) ?turn ?fin .head (.mk (dl := []) Kept.refl hbv rfl (by rw [List.append_nil]; exact hp) (by rw [List.append_nil]; exact hhv))
  case hm => exact fun ι ι I => by cases I; exact J1 (J1 (J1 hb))
  case fin =>
    intro L' I
    cases I with | @mk f' dl rs pv hv _ k a b c d =>
    have hr := strs_nil a
    subst hr
    rw [List.append_nil] at b
    exact T_nil (h f' pv hv k (b ▸ c) (b ▸ d))
  case turn =>
    intro ia X y rest L' I
    cases I with | @mk f' dl rs pv hv _ k a b c d =>
    refine strs_cons a fun g t' r er ey a' => ?_
    subst er ey
    have P' := P.kept k rfl
    have q1 := P'.1
    have q2 := P'.2.1
    have hl1 : hs.length + dl.length ≤ 100 := ar5 ((congrArg List.length b).trans List.length_append) hz
    have lc : pv.length ≤ 100 := by rw [strs_len c, List.length_append]; exact hl1
    have ld : hv.length ≤ 100 := by rw [strs_len d, List.length_append]; exact hl1
    refine T_assignName (T_stf E M7 (.tail .head) ?_)
    repeat nest_cls
    refine ⟨_, cal_push O (by tb_rel) (by tb_rel) ho hne hsh2, ?_⟩
    repeat nest_cls
    refine ⟨kp_150 O, ?_⟩
    refine c_push O ho hne ‹_› (by tb_start) (by tb_rel) (by tb_rel) lc ?_
    repeat nest_cls
    refine T_append (by tb_start) (szl (Nat.le_trans ld (by decide))) ?_
    repeat nest_cls
    refine ⟨_, .cons R3 (.cons R2 (.cons R1 (.cons .head .refl))), .mk (dl := dl ++ [g]) (kept_up (by tb_rel) k) a' (by rw [b, List.append_assoc]; rfl) ?_ ?_⟩
    · rw [← List.append_assoc]; exact strs_snoc c
    · rw [← List.append_assoc]; exact strs_snoc d
set_option tactic.hygienic true in
theorem c_pass (O : Our B) (W : Bool) {L₁ L₂ : Led} {bs : List Nat} {bvs : List Value} {Q : Value → Led → Prop}
    (ho : InstOb o 153 dx) (hne : dx ≠ x) (hv : m.lookup ("pushback" : Str) = some (some (Value.ref p))) (hsh1 : (m.lookup ("get_token" : Str)).join = none) (hsh2 : (m.lookup ("push_token" : Str)).join = none)
    (hrp : Rem (p, .ls pvs) L L₁) (hrh : Rem (hl, .ls hvs) L₁ L₂) (hx : (x, .ob o) ∈ L₂) (hdx : (dx, dn m) ∈ L₂) (hb : (bl, .ls bvs) ∈ L₂) (hk : (hd, dS B kvs) ∈ L₂)
    (hp : StrsAre pvs (hs.map nameOf)) (hhv : StrsAre hvs (hs.map nameOf)) (hbv : StrsAre bvs (bs.map nameOf)) (hH : HuesD kvs us) (hsu : ∀ y ∈ hs, y ∈ us ∧ y < 16) (hbu : ∀ y ∈ bs, y ∈ us ∧ y < 16) (hle : bs.length ≤ hs.length) (hle2 : hs.length ≤ 20)
    (h : ∀ tp gl tt gvs pvs' hvs' gs tn hs', PassR W hs bs gs tn hs' → StrsAre gvs (gs.map nameOf) → StrsAre pvs' ((hs' ++ bs).map nameOf) → StrsAre hvs' ((hs' ++ bs).map nameOf) →
      Q (.ref tp) ((tp, tup [.ref gl, .int tn tt]) :: (gl, .ls gvs) :: (p, .ls pvs') :: (hl, .ls hvs') :: L₂)) : T B (n + 10) (call (.ref 185) [.ref x, .ref hl, .ref bl, .ref hd, .int (wheelOf W) u] []) L Q := by
  refine T_rem hrp ?_
  refine T_pick (L' := (p, .ls pvs) :: (hl, .ls hvs) :: L₂) (Pick.cons .head (Pick.cons hrh .refl)) ?_
  refine T_weak ?_
  refine T_sdef O 185 [("line", .ref x), ("held", .ref hl), ("box", .ref bl), ("hues", .ref hd), ("wheel", .int (wheelOf W) u)] ["given", "turns", "word", "waiting", "name", "apart", "quotient", "way", "best"] passKs
    [("wheel", some (.int (wheelOf W) u)), ("hues", some (.ref hd)), ("box", some (.ref bl)), ("held", some (.ref hl)), ("line", some (.ref x)), ("given", none), ("turns", none), ("word", none), ("waiting", none), ("name", none), ("apart", none), ("quotient", none), ("way", none), ("best", none)]
    rfl (by kernel_rfl) rfl rfl (by decide) (by rfl) (by decide) rfl (by rfl) rfl rfl rfl rfl rfl rfl ?_
  intro F env E _ _
  refine T_nfx (P := PF x hl bl hd W u) ⟨rfl, rfl, rfl, rfl, rfl⟩ fun f P => ?_
  show T B (n + 9) (execs (passT.drop 0) env) _ _
  refine T_fr rfl ?_
  repeat nest_cls
  rename_i gl t1
  have P0 : PF x hl bl hd W u (up (up f "turns" (.int 0 t1)) "given" (.ref gl)) := P.kept (ns := ["given", "turns"]) (kept_up (.head _) (kept_up M1 Kept.refl)) rfl
  refine T_pick (L' := (F, .nf (up (up f "turns" (.int 0 t1)) "given" (.ref gl))) :: (p, .ls pvs) :: (hl, .ls hvs) :: (gl, .ls []) :: L₂) (by kct_strs) ?_
  refine T_fr rfl (T_s_For (fun ι => rfl) (T_nm E M2 (nm_f (.head _) P0.2.2.1 (T_iter_ls (J1 (J1 (J1 (J1 hb)))) fun it => ?_))))
  refine Tc_for_ls (l := bl) (vs := bvs) (InvC W L₂ F p hl gl hs bs us (PF x hl bl hd W u)) ?hm (fun ι ι => rfl) ?turn ?fin .head
    (.mk (gs := []) P0 up_eq (up_ne rfl up_eq) hbv hp hhv .nil (fun gs' tn' hs' hr => by rw [Int.zero_add]; exact hr) hsu hbu hle rfl)
  case hm => exact fun ι ι I => by cases I; exact J1 (J1 (J1 (J1 hb)))
  case fin =>
    intro L' I
    cases I with | @mk f' hs₁ ws gs pv hv' gv tn tk _ P pg pt a b c d hR _ _ _ hl2 =>
    have hr := strs_nil a
    subst hr
    have hfin := hR [] 0 hs₁ .nil
    rw [List.append_nil, Int.add_zero] at hfin
    refine T_nil (p_last O E P ho hne hv hsh2 (J1 hx) (J1 hdx) (J1 hb) hbv b c (ar1 hl2 hle2 hle) fun f2 pv2 hv2 k h1 h2 => ?_)
    have q1 := kept_ap k rfl pg
    have q2 := kept_ap k rfl pt
    refine T_fr rfl ?_
    repeat nest_cls
    exact ⟨_, by kct_strs, h _ _ _ _ _ _ _ _ _ hfin d h1 h2⟩
  case turn =>
    intro ia X y rest L' I
    cases I with | @mk f' hs₁ ws gs pv hv' gv tn tk _ P pg pt a b c d hR h1u hwu hl1 hl2 =>
    refine strs_cons a fun g t' r er ey a' => ?_
    subst er ey
    refine T_assignName (T_stf E M7 (.tail .head) ?_)
    refine T_pick (L' := (F, .nf (up f' "word" _)) :: (p, .ls pv) :: (hl, .ls hv') :: (gl, .ls gv) :: (ia, X) :: L₂) (.cons .head (.cons R1 (.cons R1 (.cons R1 .refl)))) ?_
    have ne1 : hs₁ ≠ [] := fun e => by rw [e] at hl1; cases hl1
    have Pw := P.kept (f' := up f' "word" (.str (nameOf g) t')) (ns := ["word"]) (kept_up (.head _) Kept.refl) rfl
    refine p_word O E Pw up_eq (up_ne rfl pg) (up_ne rfl pt) ho hne hv hsh1 hsh2 (J1 hx) (J1 hdx) (J1 hk) hH (hwu g (.head _)) b c h1u (ar2 hl2 hle2) ne1 (by rw [strs_len d]; exact ar3 hl2 hle2) fun f2 bi g' e u3 k pv' hB hg k2 et hpv => ?_
    refine loop_next ⟨_, .cons (.tail (.tail (.tail (.tail rem_app)))) (.cons .head (.cons .head (.cons .head (.cons .head pick_app)))), .mk (gs := gs ++ [g']) (Pw.kept k2 rfl) (kept_ap k2 rfl (up_ne rfl pg)) et a' hpv (map_erase nameOf hs₁ bi ▸ strsAre_erase c bi) (strs_snoc d) (fun gs' tn' hs' hr => ?_) (fun y hy => h1u y (List.mem_of_mem_eraseIdx hy)) (fun y hy => hwu y (.tail _ hy)) ?_ ?_⟩
    · rw [List.append_assoc, ar7]
      exact hR (g' :: gs') (tn' - qOf W g g') hs' (.cons hB hg hr)
    · rw [List.length_eraseIdx, if_pos hB.1]; exact Nat.le_sub_one_of_lt hl1
    · rw [List.length_eraseIdx, if_pos hB.1, List.length_append]
      exact ar4 hl2 (Nat.lt_of_le_of_lt (Nat.zero_le _) hB.1)
end
section
variable {B : Bg} {n : Nat} {L L' L₁ : Led} {Q : Value → Led → Prop} {a b : Int} {t u : Tok} {x dx p : Addr} {o : Obj} {m : List (Str × Option Value)} {vs : List Value}
noncomputable abbrev lexD (ln : Int) (k : Tok) (fp : Value) (w : Tok) (p : Addr) : List (Str × Option Value) := [("lineno", some (.int ln k)), ("instream", some fp), ("whitespace", some (.str "\n\t\r " w)), ("pushback", some (.ref p))]
theorem c_init (O : Our B) {fp : Value} (h : ∀ x dx o, InstOb o 153 dx → dx ≠ x → ∀ k w p, Q (.ref x) ((x, .ob o) :: (dx, dn (lexD 1 k fp w p)) :: (p, .ls []) :: L)) : T B (n + 3) (call (.ref 153) [fp] []) L Q := by
  refine T_new [("lineno", none), ("instream", none), ("whitespace", none), ("pushback", none)] (cls153 O) mN_init (O.get (a := 129) rfl) (notTab_fn (O.get (a := 129) rfl) rfl) rfl rfl rfl fun x dx o ho hne => ?_
  refine T_weak ?_
  refine T_sdef O 129 [("self", .ref x), ("fp", fp)] [] [("self", .local), ("fp", .local)] [("fp", some fp), ("self", some (.ref x))]
    rfl (by kernel_rfl) rfl rfl (by decide) (by rfl) (by decide) rfl (by rfl) rfl rfl rfl rfl rfl rfl ?_
  intro F env E hcode hqual
  clear hcode hqual
  repeat nest_cls
  refine T_sa (cls153 O) (by tb_start) (by tb_rel) ho (by ktu_off1L) mN_lineno ob_none1 (Nat.le_of_ble_eq_true rfl) ?_
  repeat nest_cls
  refine T_sa (cls153 O) (by tb_start) (by tb_rel) ho (by ktu_off1L) mN_instream ob_none2 (Nat.le_of_ble_eq_true rfl) ?_
  repeat nest_cls
  refine T_sa (cls153 O) (by tb_start) (by tb_rel) ho (by ktu_off1L) mN_whitespace ob_none3 (Nat.le_of_ble_eq_true rfl) ?_
  repeat nest_cls
  refine T_sa (cls153 O) (by tb_start) (by tb_rel) ho (by ktu_off1L) mN_pushback ob_none4 (Nat.le_of_ble_eq_true rfl) ?_
  repeat nest_cls
  exact ⟨_, by kct_strs, rfl, h _ _ _ ho hne _ _ _⟩
end
structure LexA where
  (x dx p fs ds fr c sl : Addr)
  (o fos fo : Obj)
  (cds cd : Value)
  (qs q : Str)
  w : Tok
section
variable {B : Bg} {n : Nat} {L L' L₁ L₂ : Led} {Q : Value → Led → Prop} {a b : Int} {t u : Tok} {vs : List Value}
noncomputable def CanRead (B : Bg) (Z : LexA) : Prop := ∀ (n : Nat) (L L₁ : Led) (vs : List Value) (Q : Value → Led → Prop) (t : Tok), Rem (Z.sl, .ls vs) L L₁ → (Z.fr, .fn Z.fo Z.cd Z.q) ∈ L₁ → (Z.c, .ce (some (.ref Z.sl))) ∈ L₁ → vs.length ≤ 900 →
  (vs = [] → ∀ t, Q (.str "" t) ((Z.sl, .ls []) :: L₁)) → (∀ ws v, vs = ws ++ [v] → Q v ((Z.sl, .ls ws) :: L₁)) → T B (n + 3) (call (.ref Z.fr) [.int 1 t] []) L Q
structure LexOk (B : Bg) (Z : LexA) : Prop where
  inst : InstOb Z.o 153 Z.dx
  ne : Z.dx ≠ Z.x
  fcls : Z.fos.cls = .type "function"
  fdict : Z.fos.dict = some Z.ds
  fdat : ∃ fd, Z.fos.data = .func fd
  rdat : ∃ fd, Z.fo.data = .func fd
  rd : CanRead B Z
structure Here (Z : LexA) (L : Led) : Prop where
  x : (Z.x, .ob Z.o) ∈ L
  fs : (Z.fs, .fn Z.fos Z.cds Z.qs) ∈ L
  ds : (Z.ds, dn [("read", some (.ref Z.fr))]) ∈ L
  fr : (Z.fr, .fn Z.fo Z.cd Z.q) ∈ L
  c : (Z.c, .ce (some (.ref Z.sl))) ∈ L
theorem Here.cons {Z : LexA} {p : Addr × It} (H : Here Z L) : Here Z (p :: L) := ⟨.tail _ H.x, .tail _ H.fs, .tail _ H.ds, .tail _ H.fr, .tail _ H.c⟩
noncomputable def Left (vs : List Value) (cs : List Nat) : Prop := StrsAre vs (cs.reverse.map sg)
theorem left_nil (h : Left vs []) : vs = [] := by cases h; rfl
theorem left_cons {c : Nat} {cs : List Nat} (h : Left vs (c :: cs)) : ∃ ws u, vs = ws ++ [.str (sg c) u] ∧ Left ws cs := by
  unfold Left at h ⊢
  rw [List.reverse_cons, List.map_append] at h
  generalize cs.reverse.map sg = xs at h ⊢
  induction xs generalizing vs with
  | nil => cases h with | cons _ u hh => cases hh; exact ⟨[], u, rfl, .nil⟩
  | cons x xs ih =>
    cases h with
    | cons _ u hh =>
      obtain ⟨ws, u', e, h'⟩ := ih hh
      exact ⟨_, u', by rw [e]; rfl, .cons _ u h'⟩
theorem left_len {cs : List Nat} (h : Left vs cs) : vs.length = cs.length := by
  have := strsAre_len h
  simpa using this
noncomputable def nl (c : Nat) : Int := if c = 10 then 1 else 0
theorem Tc_weak {c : Code} (h : Tc B n c L (RetQ fun a L' => ∃ L'', Pick L'' L' ∧ Q a L'')) : Tc B n c L (RetQ Q) := fun A hA s S =>
  codeAny_mono (h A hA s S) fun r s' ⟨f, L', e, S', v, e', L'', p, h'⟩ => ⟨f, L'', e, S'.pick p, v, e', h'⟩
theorem c_readch (O : Our B) {Z : LexA} {ln : Int} {k : Tok} {cs : List Nat} (K : LexOk B Z) (hr : Rem (Z.dx, dn (lexD ln k (.ref Z.fs) Z.w Z.p)) L L₁) (hr2 : Rem (Z.sl, .ls vs) L₁ L₂) (H : Here Z L₂) (hl : Left vs cs) (hz : cs.length ≤ 900)
    (h0 : cs = [] → ∀ t, Q (.str "" t) ((Z.dx, dn (lexD ln k (.ref Z.fs) Z.w Z.p)) :: (Z.sl, .ls []) :: L₂))
    (h : ∀ c r, cs = c :: r → ∀ ws k' u, Left ws r → Q (.str (sg c) u) ((Z.dx, dn (lexD (ln + nl c) k' (.ref Z.fs) Z.w Z.p)) :: (Z.sl, .ls ws) :: L₂)) : Tc B (n + 4) (.call (.ref 136) ⟨[.ref Z.x], []⟩) L (RetQ Q) := by
  refine Tc_rem hr ?_
  refine Tc_pick (L' := (Z.dx, dn (lexD ln k (.ref Z.fs) Z.w Z.p)) :: (Z.sl, .ls vs) :: L₂) (Pick.cons .head (Pick.cons hr2 .refl)) ?_
  obtain ⟨hx, hfs, hds, hfr, hc⟩ := H
  obtain ⟨fd, hfd⟩ := K.fdat
  obtain ⟨rd, hrd⟩ := K.rdat
  refine Tc_weak ?_
  refine Tc_sdef O 136 [("self", .ref Z.x)] ["ch"] [("self", .local), ("ch", .local)] [("self", some (.ref Z.x)), ("ch", none)]
    rfl (by kernel_rfl) rfl rfl (by decide) (by rfl) (by decide) rfl (by rfl) rfl rfl rfl rfl rfl rfl ?_
  intro F env E hcode hqual
  clear hcode hqual
  refine T_s_Assign rfl ?_
  refine T_MethV1 rfl rfl rfl rfl ?_
  repeat nest_cls
  refine T_ga (cls153 O) (by tb_rel) (by tb_rel) K.inst K.ne rfl mN_instream ob_none2 rfl ?_
  refine ⟨.ref Z.fr, cal_fnattr (by tb_rel) (by tb_rel) K.fcls K.fdict hfd rfl rfl, ?_⟩
  repeat nest_cls
  refine ⟨kp_fnL (by tb_rel) hrd, ?_⟩
  refine K.rd _ _ _ _ _ _ (by tb_start) (by tb_rel) (by tb_rel) (by rw [left_len hl]; exact hz) ?_ ?_
  · intro hv t
    subst hv
    have hcs : cs = [] := by have := left_len hl; cases cs; rfl; simp at this
    subst hcs
    repeat nest_cls
    refine B_no (by decide) ?_
    repeat nest_cls
    exact ⟨_, by kct_strs, h0 rfl _⟩
  · intro ws v e
    cases cs with
    | nil => rw [left_nil hl] at e; simp at e
    | cons c' r =>
      obtain ⟨ws', u, e', hl'⟩ := left_cons hl
      obtain ⟨e1, e2⟩ := List.append_inj' (e.symm.trans e') rfl
      simp only [List.cons.injEq, and_true] at e2
      subst e1 e2
      repeat nest_cls
      rw [sg_eq (d := 10) (by decide +kernel)]
      refine D_if (fun hc' => ?_) (fun hc' => ?_)
      · refine T_s_AugAttr ?_
        repeat nest_cls
        refine T_ga (cls153 O) (by tb_rel) (by tb_rel) K.inst K.ne rfl mN_lineno ob_none1 rfl ?_
        repeat nest_cls
        refine T_sa (cls153 O) (by tb_start) (by tb_rel) K.inst (by ktu_off1L) mN_lineno ob_none1 (Nat.le_of_ble_eq_true rfl) ?_
        repeat nest_cls
        have e1 : ln + nl c' = ln + 1 := by unfold nl; rw [if_pos hc']
        have := h _ _ rfl ws
        rw [e1] at this
        exact ⟨_, by kct_strs, this _ _ hl'⟩
      · repeat nest_cls
        have e1 : ln + nl c' = ln := by unfold nl; rw [if_neg hc', Int.add_zero]
        have := h _ _ rfl ws
        rw [e1] at this
        exact ⟨_, by kct_strs, this _ _ hl'⟩
end
noncomputable def qRun : List Nat → List Nat → List Nat × List Nat
  | acc, [] => (acc, [])
  | acc, c :: r => if c = 34 then (acc, r) else if c = 92 then (match r with | [] => (acc, []) | d :: r => qRun (acc ++ [d]) r) else qRun (acc ++ [c]) r
noncomputable def pRun : List Nat → List Nat → List Nat × List Nat
  | acc, [] => (acc, [])
  | acc, c :: r => if isWs c = true then (acc, r) else if c = 92 then (match r with | [] => (acc, []) | d :: r => pRun (acc ++ [d]) r) else pRun (acc ++ [c]) r
noncomputable def tokRun : List Nat → List Nat × List Nat
  | [] => ([], [])
  | c :: r => if isWs c = true then tokRun r else if c = 34 then qRun [] r else if c = 92 then (match r with | [] => ([], []) | d :: r => pRun [d] r) else pRun [c] r
theorem qRun_cons (acc : List Nat) (c : Nat) (r : List Nat) : qRun acc (c :: r) = if c = 34 then (acc, r) else if c = 92 then (match r with | [] => (acc, []) | d :: r => qRun (acc ++ [d]) r) else qRun (acc ++ [c]) r := by rw [qRun.eq_def]
theorem pRun_cons (acc : List Nat) (c : Nat) (r : List Nat) : pRun acc (c :: r) = if isWs c = true then (acc, r) else if c = 92 then (match r with | [] => (acc, []) | d :: r => pRun (acc ++ [d]) r) else pRun (acc ++ [c]) r := by rw [pRun.eq_def]
theorem tokRun_cons (c : Nat) (r : List Nat) : tokRun (c :: r) = if isWs c = true then tokRun r else if c = 34 then qRun [] r else if c = 92 then (match r with | [] => ([], []) | d :: r => pRun [d] r) else pRun [c] r := by rw [tokRun.eq_def]
noncomputable def nlc (cs : List Nat) : Int := (cs.map nl).sum
theorem nlc_cons (c : Nat) (cs : List Nat) : nlc (c :: cs) = nl c + nlc cs := rfl
noncomputable def toS (l : List Nat) : Str := ⟨l.toArray⟩
theorem toS_snoc (l : List Nat) (c : Nat) : toS l ++ sg c = toS (l ++ [c]) := by
  show (⟨l.toArray ++ #[c]⟩ : Str) = _
  unfold toS
  simp
theorem toS_app (l m : List Nat) : toS l ++ toS m = toS (l ++ m) := by
  show (⟨l.toArray ++ m.toArray⟩ : Str) = _
  unfold toS
  simp
theorem toS_nil : toS [] = Str.ofString "" := by decide +kernel
theorem toS_len (l : List Nat) : (toS l).length = l.length := by unfold toS Str.length; simp
theorem sg_len (c : Nat) : (sg c).length = 1 := rfl
theorem sg_ne (c : Nat) : sg c ≠ Str.ofString "" := by rw [← toS_nil]; unfold sg toS; intro h; injection h with h; simp at h
section
variable {B : Bg} {n : Nat} {L L' L₁ L₂ : Led} {Q : Value → Led → Prop} {a b : Int} {t u : Tok} {vs : List Value}
theorem T_letg {target : Expr} {it v : Value} {Q : Unit → Led → Prop} (ht : letOwnedTupleGo target it v = pure ()) (h : Q () L) : T B n (letOwnedTupleGo target it v) L Q := by rw [ht]; exact T_pure h
end
noncomputable def esc (c : Nat) (r : List Nat) : List Nat × List Nat := if c = 92 then (match r with | [] => ([], []) | d :: r => ([d], r)) else ([c], r)
theorem qRun_es (acc : List Nat) (c : Nat) (r : List Nat) : qRun acc (c :: r) = if (c == 34) = true then (acc, r) else qRun (acc ++ (esc c r).1) (esc c r).2 := by
  rw [qRun_cons]
  unfold esc
  by_cases h : c = 34
  · rw [if_pos h, if_pos (beq_iff_eq.mpr h)]
  · rw [if_neg h, if_neg (fun e => h (beq_iff_eq.mp e))]
    by_cases h' : c = 92
    · rw [if_pos h', if_pos h']
      cases r with
      | nil => rw [List.append_nil]; rfl
      | cons d r => rfl
    · rw [if_neg h', if_neg h']
theorem pRun_es (acc : List Nat) (c : Nat) (r : List Nat) : pRun acc (c :: r) = if isWs c = true then (acc, r) else pRun (acc ++ (esc c r).1) (esc c r).2 := by
  rw [pRun_cons]
  unfold esc
  by_cases h : isWs c = true
  · rw [if_pos h, if_pos h]
  · rw [if_neg h, if_neg h]
    by_cases h' : c = 92
    · rw [if_pos h', if_pos h']
      cases r with
      | nil => rw [List.append_nil]; rfl
      | cons d r => rfl
    · rw [if_neg h', if_neg h']
theorem tokRun_es (c : Nat) (r : List Nat) : tokRun (c :: r) = if isWs c = true then tokRun r else if c = 34 then qRun [] r else pRun (esc c r).1 (esc c r).2 := by
  rw [tokRun_cons]
  unfold esc
  by_cases h : isWs c = true
  · rw [if_pos h, if_pos h]
  · rw [if_neg h, if_neg h]
    by_cases h' : c = 34
    · rw [if_pos h', if_pos h']
    · rw [if_neg h', if_neg h']
      by_cases h' : c = 92
      · rw [if_pos h', if_pos h']
        cases r <;> rfl
      · rw [if_neg h', if_neg h']
theorem esc_len (c : Nat) (r : List Nat) : (esc c r).1.length + (esc c r).2.length ≤ r.length + 1 ∧ (esc c r).2.length ≤ r.length ∧ (esc c r).1.length ≤ 1 := by
  unfold esc
  by_cases h' : c = 92
  · rw [if_pos h']
    cases r with
    | nil => exact ⟨Nat.zero_le _, Nat.le_refl _, Nat.zero_le _⟩
    | cons d r => exact ⟨by rw [Nat.add_comm]; exact Nat.le_succ _, Nat.le_succ _, Nat.le_refl _⟩
  · rw [if_neg h']
    exact ⟨by rw [Nat.add_comm]; exact Nat.le_refl _, Nat.le_refl _, Nat.le_refl _⟩
noncomputable abbrev getKs : List (Str × NameKind) := [("self", .local), ("token", .local), ("fiter", .local), ("ch", .local), ("iter", .globalImplicit)]
noncomputable def GS (Z : LexA) (F it q : Addr) (im : It) (L0 : Led) (N : Int) (cs acc : List Nat) (w : Option (List Nat)) (L : Led) : Prop :=
  ∃ (f : Str → Option Value) (ln : Int) (k : Tok) (vs : List Value), (f "self" = some (.ref Z.x) ∧ (∃ tt, f "token" = some (.str (toS acc) tt)) ∧ f "fiter" = some (.ref it) ∧ ∀ x, w = some x → ∃ t, f "ch" = some (.str (toS x) t)) ∧ Left vs cs ∧ ln + nlc cs = N ∧
    L = (F, .nf f) :: (it, im) :: (q, bmIt 136 Z.x) :: (Z.dx, dn (lexD ln k (.ref Z.fs) Z.w Z.p)) :: (Z.sl, .ls vs) :: L0
section
variable {B : Bg} {n : Nat} {L L0 : Led} {env : Env} {Z : LexA} {F it q : Addr} {im : It} {N : Int} {cs acc x : List Nat} {w : Option (List Nat)} {p p' : Pos} {Q : Value → Led → Prop} {t0 : Tok}
set_option maxHeartbeats 4000000
theorem GS.none (G : GS Z F it q im L0 N cs acc w L) : GS Z F it q im L0 N cs acc none L :=
  G.elim fun f G => G.elim fun ln G => G.elim fun k G => G.elim fun vs G => ⟨f, ln, k, vs, ⟨G.1.1, G.1.2.1, G.1.2.2.1, fun ι e => nomatch e⟩, G.2⟩
theorem GS.case {C : Led → Prop} (G : GS Z F it q im L0 N cs acc w L) (h : ∀ (f : Str → Option Value) (ln : Int) (k : Tok) (vs : List Value), (f "self" = some (.ref Z.x) ∧ (∃ tt, f "token" = some (.str (toS acc) tt)) ∧ f "fiter" = some (.ref it) ∧ ∀ x, w = some x → ∃ t, f "ch" = some (.str (toS x) t)) → Left vs cs → ln + nlc cs = N →
    C ((F, .nf f) :: (it, im) :: (q, bmIt 136 Z.x) :: (Z.dx, dn (lexD ln k (.ref Z.fs) Z.w Z.p)) :: (Z.sl, .ls vs) :: L0)) : C L := by
  obtain ⟨f, ln, k, vs, a, b, c, rfl⟩ := G
  exact h f ln k vs a b c
theorem g_self (E : EnvIs env getKs F []) (G : GS Z F it q im L0 N cs acc w L) (h : Q (.ref Z.x) L) : T B n (eval (.Name "self" p) env) L Q := by
  exact G.case (C := fun L => Q (.ref Z.x) L → T B n (eval (.Name "self" p) env) L Q) (fun f ln k vs hf ι ι h => T_nm E (.head _) (nm_f (.head _) hf.1 h)) h
theorem g_fi (E : EnvIs env getKs F []) (G : GS Z F it q im L0 N cs acc w L) (h : Q (.ref it) L) : T B n (eval (.Name "fiter" p) env) L Q := by
  exact G.case (C := fun L => Q (.ref it) L → T B n (eval (.Name "fiter" p) env) L Q) (fun f ln k vs hf ι ι h => T_nm E M2 (nm_f (.head _) hf.2.2.1 h)) h
theorem g_tok (E : EnvIs env getKs F []) (G : GS Z F it q im L0 N cs acc w L) (h : ∀ t, Q (.str (toS acc) t) L) : T B n (eval (.Name "token" p) env) L Q := by
  exact G.case (C := fun L => (∀ t, Q (.str (toS acc) t) L) → T B n (eval (.Name "token" p) env) L Q) (fun f ln k vs hf ι ι h => hf.2.1.elim fun t ht => T_nm E M1 (nm_f (.head _) ht (h t))) h
theorem g_ch (E : EnvIs env getKs F []) (G : GS Z F it q im L0 N cs acc (some x) L) (h : ∀ t, Q (.str (toS x) t) L) : T B n (eval (.Name "ch" p) env) L Q := by
  exact G.case (C := fun L => (∀ t, Q (.str (toS x) t) L) → T B n (eval (.Name "ch" p) env) L Q) (fun f ln k vs hf ι ι h => (hf.2.2.2 x rfl).elim fun t ht => T_nm E M3 (nm_f (.head _) ht (h t))) h
theorem g_setch {Q : Unit → Led → Prop} {t : Tok} (E : EnvIs env getKs F []) (G : GS Z F it q im L0 N cs acc w L) (h : ∀ L', GS Z F it q im L0 N cs acc (some x) L' → Q () L') : T B n (storeName env "ch" (.str (toS x) t)) L Q :=
  G.case (C := fun L => T B n (storeName env "ch" (.str (toS x) t)) L Q) fun f ln k vs hf hl hn => T_sm E M3 (sm_f .head (h _ ⟨_, ln, k, vs, ⟨up_ne rfl hf.1, hf.2.1.elim fun t e => ⟨t, up_ne rfl e⟩, up_ne rfl hf.2.2.1, fun x e => ⟨t, (by cases e; exact up_eq)⟩⟩, hl, hn, rfl⟩))
theorem pk5 {a b c d e : Addr × It} : Pick (c :: d :: e :: a :: b :: L) (a :: b :: c :: d :: e :: L) := .cons R2 (.cons R2 (.cons R2 .refl))
theorem g_rd (O : Our B) (K : LexOk B Z) (H : Here Z L0) (hz : cs.length ≤ 900) (G : GS Z F it q im L0 N cs acc w L)
    (h0 : cs = [] → ∀ t L', GS Z F it q im L0 N [] acc w L' → Q (.str (toS []) t) L') (h1 : ∀ c r, cs = c :: r → ∀ t L', GS Z F it q im L0 N r acc w L' → Q (.str (toS [c]) t) L') : Tc B (n + 4) (.call (.ref 136) ⟨[.ref Z.x], []⟩) L (RetQ Q) := by
  refine G.case (C := fun L => Tc B (n + 4) (.call (.ref 136) ⟨[.ref Z.x], []⟩) L (RetQ Q)) fun f ln k vs hf hl hn => Tc_weak ?_
  exact c_readch O K R3 R3 H.cons.cons.cons hl hz (fun hc t => ⟨_, pk5, by rw [← toS_nil]; exact h0 hc t _ ⟨f, ln, k, [], hf, .nil, by rw [← hn, hc], rfl⟩⟩) (fun c r hc ws k' u hw => ⟨_, pk5, h1 c r hc u _ ⟨f, ln + nl c, k', ws, hf, hw, by rw [← hn, hc, nlc_cons, Int.add_assoc], rfl⟩⟩)
theorem g_ws (O : Our B) (K : LexOk B Z) (H : Here Z L0) (E : EnvIs env getKs F []) (G : GS Z F it q im L0 N cs acc w L) (h : ∀ t, Q (.str "\n\t\r " t) L) : T B n (eval (.Attribute (.Name "self" p) "whitespace" p') env) L Q :=
  T_Attribute rfl (g_self E G (G.case (C := fun L => (∀ t, Q (.str "\n\t\r " t) L) → T B n (getAttr (.ref Z.x) "whitespace" true) L Q) (fun f ln k vs hf ι ι h => T_ga (cls153 O) H.cons.cons.cons.cons.cons.x M3 K.inst K.ne rfl mN_whitespace ob_none3 rfl (h _)) h))
theorem g_cal (O : Our B) (K : LexOk B Z) (H : Here Z L0) (G : GS Z F it q im L0 N cs acc w L) : Cal B env L (.ref Z.x) "_read_char" (.ref 136) [.ref Z.x] :=
  G.case (C := fun L => Cal B env L (.ref Z.x) "_read_char" (.ref 136) [.ref Z.x]) fun f ln k vs hf hl hn => cal_inst (cls153 O) H.cons.cons.cons.cons.cons.x M3 K.inst K.ne mN_read (O.get (a := 136) rfl) (notTab_fn (O.get (a := 136) rfl) rfl) rfl ob_none5 rfl
theorem g_next {Q : Option Value → Led → Prop} (O : Our B) (K : LexOk B Z) (H : Here Z L0) (hz : cs.length ≤ 900) (G : GS Z F it q (ciIt q t0) L0 N cs acc w L)
    (h0 : cs = [] → ∀ L', GS Z F it q ciEnd L0 N [] acc none L' → Q none L') (h1 : ∀ c r, cs = c :: r → ∀ t L', GS Z F it q (ciIt q t0) L0 N r acc none L' → Q (some (.str (toS [c]) t)) L') : T B (n + 5) (pyNext (.ref it)) L Q := by
  refine G.none.case (C := fun L => T B (n + 5) (pyNext (.ref it)) L Q) fun f ln k vs hf hl hn => T_weak ?_
  exact T_next_ci M1 M2 (O.get (a := 136) rfl) rfl (g_rd O K H hz ⟨f, ln, k, vs, hf, hl, hn, rfl⟩
    (fun hc t L' G => G.case (C := fun L' => ∃ L₂ s u, Value.str (toS []) t = .str s u ∧ Rem (it, ciIt q t0) L' L₂ ∧ (q, bmIt 136 Z.x) ∈ L₂ ∧ (s ≠ "" → ∃ L'', Pick L'' L' ∧ Q (some (.str (toS []) t)) L'') ∧ (s = "" → ∃ L'', Pick L'' ((it, ciEnd) :: L₂) ∧ Q none L''))
      fun f ln k vs hf hl hn => ⟨_, _, _, rfl, R1, M1, fun z => absurd toS_nil z, fun ι => ⟨_, .cons R1 .refl, h0 hc _ ⟨f, ln, k, vs, hf, hl, hn, rfl⟩⟩⟩)
    (fun c r hc t L' G => G.case (C := fun L' => ∃ L₂ s u, Value.str (toS [c]) t = .str s u ∧ Rem (it, ciIt q t0) L' L₂ ∧ (q, bmIt 136 Z.x) ∈ L₂ ∧ (s ≠ "" → ∃ L'', Pick L'' L' ∧ Q (some (.str (toS [c]) t)) L'') ∧ (s = "" → ∃ L'', Pick L'' ((it, ciEnd) :: L₂) ∧ Q none L''))
      fun f ln k vs hf hl hn => ⟨_, _, _, rfl, R1, M1, fun ι => ⟨_, .refl, h1 c r hc _ _ ⟨f, ln, k, vs, hf, hl, hn, rfl⟩⟩, fun z => absurd z (sg_ne c)⟩))
theorem g_end {Q : Option Value → Led → Prop} (G : GS Z F it q ciEnd L0 N cs acc w L) (h : Q none L) : T B (n + 5) (pyNext (.ref it)) L Q :=
  G.case (C := fun L => Q none L → T B (n + 5) (pyNext (.ref it)) L Q) (fun f ln k vs hf hl hn h => T_next_ciEnd M1 h) h
theorem g_add {Q : Flow → Led → Prop} {rest : List Stmt} {p1 p2 p3 : Pos} (E : EnvIs env getKs F []) (G : GS Z F it q im L0 N cs acc (some x) L) (hz : acc.length + x.length ≤ 901) (h : ∀ L', GS Z F it q im L0 N cs (acc ++ x) none L' → T B n (execs rest env) L' Q) :
    T B n (execs (.AugAssign (.Name "token" p1) .Add (.Name "ch" p2) p3 :: rest) env) L Q :=
  G.case (C := fun L => T B n (execs (.AugAssign (.Name "token" p1) .Add (.Name "ch" p2) p3 :: rest) env) L Q) fun f ln k vs hf hl hn =>
    hf.2.1.elim fun t ht => (hf.2.2.2 x rfl).elim fun u hu => T_s_Aug (T_lm E M1 (lm_f (.head _) ht (T_nm E M3 (nm_f (.head _) hu (T_iaddS (by rw [toS_len, toS_len]; exact szl (Nat.le_trans hz (by decide))) fun k2 => T_sm E M1 (sm_f .head
      (h _ ⟨_, ln, k, vs, ⟨up_ne rfl hf.1, ⟨_, up_eq.trans (by rw [toS_app])⟩, up_ne rfl hf.2.2.1, fun x e => nomatch e⟩, hl, hn, rfl⟩)))))))
theorem g_esc {Q : Flow → Led → Prop} {c : Nat} {p1 p2 p3 p4 p5 p6 p7 p8 p9 : Pos} {k : Nat} (O : Our B) (K : LexOk B Z) (H : Here Z L0) (E : EnvIs env getKs F []) (hp : (p6.endLine == p7.line) = true) (hz : cs.length ≤ 900) (G : GS Z F it q im L0 N cs acc (some [c]) L)
    {rest : List Stmt} (h : ∀ L', GS Z F it q im L0 N (esc c cs).2 acc (some (esc c cs).1) L' → T B (n + 5) (execs rest env) L' Q) :
    T B (n + 5) (execs (.If (.Compare (.Name "ch" p1) [.Eq] [.Constant (.str "\\") k p2] p3) [.Assign [.Name "ch" p4] (.Call (.Attribute (.Name "self" p5) "_read_char" p6) [] [] p7) p8] [] p9 :: rest) env) L Q := by
  have e : (toS [c] == Str.ofString "\\") = decide (c = 92) := sg_eq (d := 92) (by decide +kernel)
  refine T_s_If (T_t_Compare rfl (g_ch E G fun t => T_c_str fun t => T_eqS (T_t_bool (e ▸ D_if (fun hc => ?_) (fun hc => ?_)))))
  · subst hc
    refine T_s_Assign rfl (T_MethS0 rfl hp (g_self E G ⟨_, g_cal O K H G, kp_fn (O.get (a := 136) rfl) rfl, T_call (g_rd O K H hz G (fun hc t L' G' => ?_) (fun d r hc t L' G' => ?_))⟩))
    · subst hc; exact g_setch E G' fun L' G' => T_nil (h L' G')
    · subst hc; exact g_setch E G' fun L' G' => T_nil (h L' G')
  · exact T_nil (h L (by unfold esc; rw [if_neg hc]; exact G))
theorem g_loop {tst : Expr} {p1 p2 p3 p4 p5 p6 p7 p8 p9 p10 p11 p12 p13 p14 p15 p16 : Pos} {k : Nat} {Q : Flow → Led → Prop} (O : Our B) (K : LexOk B Z) (H : Here Z L0) (E : EnvIs env getKs F []) (run : List Nat → List Nat → List Nat × List Nat) (stop : Nat → Bool) (r0 : ∀ acc, run acc [] = (acc, []))
    (r1 : ∀ acc c r, run acc (c :: r) = if stop c = true then (acc, r) else run (acc ++ (esc c r).1) (esc c r).2) (ht : ∀ {c : Nat} {r acc : List Nat} {L : Led} {Q : Bool → Led → Prop}, GS Z F it q (ciIt q t0) L0 N r acc (some [c]) L → Q (stop c) L → T B (n + 5) (isTrue tst env (eval tst env)) L Q)
    (hp : (p8.endLine == p9.line) = true) (hz : acc.length + cs.length ≤ 900) (G : GS Z F it q (ciIt q t0) L0 N cs acc w L)
    (hend : ∀ tok L', run acc cs = (tok, []) → GS Z F it q ciEnd L0 N [] tok none L' → Q .next L')
    (hret : ∀ tok rest w t L', run acc cs = (tok, rest) → GS Z F it q (ciIt q t0) L0 N rest tok w L' → Q (.ret (.str (toS tok) t)) L') :
    Tc B (n + 5) (.forLoop (.Name "ch" p1) (.ref it) [.If tst [.Return (some (.Name "token" p2)) p11] [.If (.Compare (.Name "ch" p3) [.Eq] [.Constant (.str "\\") k p4] p5) [.Assign [.Name "ch" p6] (.Call (.Attribute (.Name "self" p7) "_read_char" p8) [] [] p9) p10] [] p16] p12, .AugAssign (.Name "token" p13) .Add (.Name "ch" p14) p15] [] env) L Q := by
  refine Tc_for (fun k L' => ∃ acc' cs', k = cs'.length + 1 ∧ run acc' cs' = run acc cs ∧ acc'.length + cs'.length ≤ 900 ∧ GS Z F it q (ciIt q t0) L0 N cs' acc' none L') (fun k L G => ?_) (cs.length + 1) ⟨acc, cs, rfl, rfl, hz, G.none⟩
  refine G.elim fun acc' G => G.elim fun cs' G => ?_
  refine g_next O K H (Nat.le_trans (Nat.le_add_left _ _) G.2.2.1) G.2.2.2 (fun hc L' G' => T_nil (hend acc' L' (by rw [← G.2.1, hc, r0]) G')) (fun c r hc t L' G' => ?_)
  refine T_letg rfl (T_assignName (g_setch E G' fun L2 G2 => ?_))
  have hz' : acc'.length + (r.length + 1) ≤ 900 := by have := G.2.2.1; rw [hc] at this; exact this
  have hr : run acc cs = if stop c = true then (acc', r) else run (acc' ++ (esc c r).1) (esc c r).2 := by rw [← G.2.1, hc, r1]
  refine T_s_If (ht G2 ⟨fun hs => T_s_Return (g_tok E G2 fun t => hret acc' r _ t _ (by rw [hr, if_pos hs]) G2), fun hs => g_esc O K H E hp (by omega) G2 fun L3 G3 => T_nil ?_⟩)
  have hl := esc_len c r
  refine g_add E G3 (by omega) fun L4 G4 => T_nil ⟨_, L4, ?_, .refl, acc' ++ (esc c r).1, (esc c r).2, rfl, by rw [hr, if_neg (by rw [hs]; exact Bool.false_ne_true)], by rw [List.length_append]; omega, G4⟩
  rw [G.1, hc]
  exact Nat.succ_lt_succ (Nat.lt_succ_of_le hl.2.1)
theorem g_iter (G : GS Z F it q (ciIt q t0) L0 N cs acc w L) (h : Q (.ref it) L) : T B n (pyIter (.ref it)) L Q :=
  G.case (C := fun L => Q (.ref it) L → T B n (pyIter (.ref it)) L Q) (fun f ln k vs hf hl hn h => T_iter_ci M1 h) h
theorem g_isws {p1 p2 p3 p4 : Pos} {c : Nat} {Q : Bool → Led → Prop} (O : Our B) (K : LexOk B Z) (H : Here Z L0) (E : EnvIs env getKs F []) (wh : Sem Value) (G : GS Z F it q im L0 N cs acc (some [c]) L) (h : Q (isWs c) L) :
    T B n (isTrue (.Compare (.Name "ch" p1) [.In] [.Attribute (.Name "self" p2) "whitespace" p3] p4) env wh) L Q :=
  T_t_Compare rfl (g_ch E G fun t => g_ws O K H E G fun t => T_inS (T_t_bool (ws_in c ▸ h)))
theorem g_isq {p1 p2 p3 : Pos} {k : Nat} {c : Nat} {Q : Bool → Led → Prop} (E : EnvIs env getKs F []) (wh : Sem Value) (G : GS Z F it q im L0 N cs acc (some [c]) L) (h : Q (c == 34) L) :
    T B n (isTrue (.Compare (.Name "ch" p1) [.Eq] [.Constant (.str "\"") k p2] p3) env wh) L Q :=
  T_t_Compare rfl (g_ch E G fun t => T_c_str fun t => T_eqS (T_t_bool (by rw [show (toS [c] == Str.ofString "\"") = (c == 34) from sg_eq (d := 34) (by decide +kernel)]; exact h)))
set_option tactic.hygienic true in
set_option maxHeartbeats 4000000 in
theorem c_get (O : Our B) {L₁ L₂ : Led} {vs : List Value} {ln : Int} {k : Tok} (K : LexOk B Z) (hr : Rem (Z.dx, dn (lexD ln k (.ref Z.fs) Z.w Z.p)) L L₁) (hr2 : Rem (Z.sl, .ls vs) L₁ L₂) (H : Here Z L₂) (hp : (Z.p, .ls []) ∈ L₂) (hl : Left vs cs) (hz : cs.length ≤ 900)
    (h : ∀ tok rest ln' ws k' u, tokRun cs = (tok, rest) → ln' + nlc rest = ln + nlc cs → Left ws rest → Q (.str (toS tok) u) ((Z.dx, dn (lexD ln' k' (.ref Z.fs) Z.w Z.p)) :: (Z.sl, .ls ws) :: L₂)) : T B (n + 6) (call (.ref 143) [.ref Z.x] []) L Q := by
  refine T_rem hr ?_
  refine T_pick (L' := (Z.dx, dn (lexD ln k (.ref Z.fs) Z.w Z.p)) :: (Z.sl, .ls vs) :: L₂) (Pick.cons .head (Pick.cons hr2 .refl)) ?_
  refine T_weak ?_
  refine T_sdef O 143 [("self", .ref Z.x)] ["token", "fiter", "ch"] getKs [("self", some (.ref Z.x)), ("token", none), ("fiter", none), ("ch", none)]
    rfl (by kernel_rfl) rfl rfl (by decide) (by rfl) (by decide) rfl (by rfl) rfl rfl rfl rfl rfl rfl ?_
  intro F env E _ _
  refine T_nfx (P := fun f => f "self" = some (.ref Z.x)) rfl fun f hf => ?_
  have hx := H.x
  repeat nest_cls
  refine T_ga (cls153 O) (by tb_rel) (by tb_rel) K.inst K.ne rfl mN_pushback ob_none4 rfl ?_
  repeat nest_cls
  refine D_no (by simp) ?_
  repeat nest_cls
  refine T_bm (f := 136) O (by tb_rel) (by tb_rel) K.inst (by kernel_rfl) (by kernel_rfl) (by kernel_rfl) (by kernel_rfl) (by decide +kernel) (by kernel_rfl) (by kernel_rfl) (by kernel_rfl) rfl fun q => ?_
  repeat nest_cls
  refine T_iter2 (by tb_rel) fun it => ?_
  repeat nest_cls
  refine T_iter_ci (by tb_rel) ?_
  rename_i t1 t2
  have fin : ∀ {tok rest w t im L'}, tokRun cs = (tok, rest) → GS Z F it q im L₂ (ln + nlc cs) rest tok w L' → ∃ L'', Pick L'' L' ∧ Q (.str (toS tok) t) L'' := fun e G => G.case (C := fun L' => ∃ L'', Pick L'' L' ∧ Q _ L'') fun f ln k vs hf hl hn => ⟨_, .skip (.skip (.skip .refl)), h _ _ _ _ _ _ e hn hl⟩
  refine Tc_for (fun m L' => (∃ cs', m = cs'.length + 1 ∧ tokRun cs = tokRun cs' ∧ cs'.length ≤ 900 ∧ GS Z F it q (ciIt q t2) L₂ (ln + nlc cs) cs' [] none L') ∨ (∃ tok, m = 0 ∧ tokRun cs = (tok, []) ∧ GS Z F it q ciEnd L₂ (ln + nlc cs) [] tok none L')) (fun m L' G => ?_) (cs.length + 1)
    (.inl ⟨cs, rfl, rfl, hz, _, ln, k, vs, ⟨up_ne rfl (up_ne rfl hf), ⟨t1, up_ne rfl (by rw [toS_nil]; exact up_eq)⟩, up_eq, fun ι e => nomatch e⟩, hl, rfl, rfl⟩)
  refine G.elim (fun G => G.elim fun cs' G => ?_) (fun G => G.elim fun tok G => g_end G.2.2 (T_nil (T_s_Return (g_tok E G.2.2 fun t => fin G.2.1 G.2.2))))
  refine g_next O K H G.2.2.1 G.2.2.2 (fun hc L' G' => T_nil (T_s_Return (g_tok E G' fun t => fin (G.2.1.trans (by rw [hc]; rfl)) G'))) (fun c r hc t L' G' => ?_)
  have hz' : r.length + 1 ≤ 900 := by have := G.2.2.1; rw [hc] at this; exact this
  have hm : r.length + 1 < m := by rw [G.1, hc]; exact Nat.lt_succ_self _
  have hr : tokRun cs = if isWs c = true then tokRun r else if c = 34 then qRun [] r else pRun (esc c r).1 (esc c r).2 := by rw [G.2.1, hc, tokRun_es]
  have hm0 : 0 < m := Nat.lt_of_le_of_lt (Nat.zero_le _) hm
  refine T_letg rfl (T_assignName (g_setch E G' fun L2 G2 => ?_))
  refine T_s_If (g_isws O K H E _ G2 ⟨fun hw => T_s_Continue ⟨r.length + 1, L2, hm, .refl, .inl ⟨r, rfl, by rw [hr, if_pos hw], by omega, G2.none⟩⟩, fun hw => T_nil ?_⟩)
  rw [if_neg (by rw [hw]; exact Bool.false_ne_true)] at hr
  refine T_s_If (g_isq E _ G2 ⟨fun hq => ?_, fun hq => ?_⟩)
  · rw [if_pos (beq_iff_eq.mp hq)] at hr
    exact T_s_For (fun ι => rfl) (g_fi E G2 (g_iter G2 (g_loop O K H E qRun (· == 34) (fun ι => by rw [qRun.eq_def]) qRun_es (fun G h => g_isq E _ G h) rfl (by rw [List.length_nil]; omega) G2 (fun tok L' e G' => T_nil (T_nil ⟨0, L', hm0, .refl, .inr ⟨tok, rfl, hr.trans e, G'⟩⟩)) (fun tok rest w t L' e G' => fin (hr.trans e) G'))))
  · rw [if_neg (fun e => by rw [e] at hq; cases hq)] at hr
    have hl := esc_len c r
    refine g_esc O K H E rfl (by omega) G2 fun L3 G3 => g_add E G3 (by rw [List.length_nil]; omega) fun L4 G4 => ?_
    exact T_s_For (fun ι => rfl) (g_fi E G4 (g_iter G4 (g_loop O K H E pRun isWs (fun ι => by rw [pRun.eq_def]) pRun_es (fun G h => g_isws O K H E _ G h) rfl (by rw [List.nil_append]; omega) G4 (fun tok L' e G' => T_nil (T_nil ⟨0, L', hm0, .refl, .inr ⟨tok, rfl, hr.trans e, G'⟩⟩)) (fun tok rest w t L' e G' => fin (hr.trans e) G'))))
end
section
variable {B : Bg} {n : Nat} {L L' L₁ L₂ : Led} {Q : Value → Led → Prop} {a b : Int} {t u : Tok} {vs : List Value}
theorem fin_lex (x dx p fs ds fr c sl : Addr) (k w : Tok) {o fos fo : Obj} {cds cd : Value} {qs q : Str} {vs : List Value}
    (p' : Pick ((x, .ob o) :: (dx, dn (lexD 1 k (.ref fs) w p)) :: (p, .ls []) :: (fs, .fn fos cds qs) :: (ds, dn [("read", some (.ref fr))]) :: (fr, .fn fo cd q) :: (c, .ce (some (.ref sl))) :: (sl, .ls vs) :: L) L')
    (h : Q (.ref x) ((x, .ob o) :: (dx, dn (lexD 1 k (.ref fs) w p)) :: (p, .ls []) :: (fs, .fn fos cds qs) :: (ds, dn [("read", some (.ref fr))]) :: (fr, .fn fo cd q) :: (c, .ce (some (.ref sl))) :: (sl, .ls vs) :: L)) : ∃ L'', Pick L'' L' ∧ Q (.ref x) L'' := ⟨_, p', h⟩
theorem c_lexer (O : Our B) {cs : List Nat} (hz : cs.length ≤ 900)
    (h : ∀ Z k vs, LexOk B Z → Left vs cs → Q (.ref Z.x) ((Z.x, .ob Z.o) :: (Z.dx, dn (lexD 1 k (.ref Z.fs) Z.w Z.p)) :: (Z.p, .ls []) :: (Z.fs, .fn Z.fos Z.cds Z.qs) :: (Z.ds, dn [("read", some (.ref Z.fr))]) :: (Z.fr, .fn Z.fo Z.cd Z.q) :: (Z.c, .ce (some (.ref Z.sl))) :: (Z.sl, .ls vs) :: L)) : T B (n + 6) (call (.ref 164) [.str (toS cs) t] []) L Q := by
  refine T_weak ?_
  refine T_scdef O 164 [("text", .str (toS cs) t)] [("text", .str (toS cs) t)] [] ["stream"]
    [("text", .local), ("stream", .local), ("signs", .cell), ("list", .globalImplicit), ("_netrclex", .globalImplicit)] [("text", some (.str (toS cs) t)), ("stream", none)]
    [("signs", 0, none)] (fun c => [("signs", c 0)]) (fun c => [(c 0, It.ce none)])
    rfl (by kernel_rfl) rfl rfl (by rfl) (by rfl) (by rfl) (by rfl) (fun ι => rfl) (fun ι => rfl) (by decide) rfl (by rfl) (by rfl) (by rfl) rfl rfl rfl rfl rfl rfl ?_
  intro F env c E hcode hqual
  replace hcode : env.code = .ref 163 := hcode
  replace hqual : env.qual = "_law_lexer.<locals>." := hqual
  dsimp only [List.cons_append, List.nil_append] at E ⊢
  repeat nest_cls
  refine T_list_str (List.cons_ne_nil _ _) (by show (toS cs).length ≤ _; rw [toS_len]; exact szl (by omega)) fun l0 lv hlv => ?_
  have hlv' : StrsAre lv (cs.map sg) := by
    have e : signsOf (toS cs) = cs.map sg := by unfold signsOf toS; simp; intro a _; rfl
    rw [e] at hlv; exact hlv
  have hlen : lv.length = cs.length := by simpa using strsAre_len hlv'
  repeat nest_cls
  refine T_Slice (T_vnone (T_vnone (T_vsome ?_)))
  repeat nest_cls
  intro sa
  refine T_getSlice (lo := none) (hi := none) (st := some (-1)) (by tb_rel) (by tb_rel) .none .none (.int _ _) (by decide) (pick_rev lv) (by omega) ⟨_, rfl⟩ fun lr => ?_
  repeat nest_cls
  refine T_Lambda (clos := ?q0) E O.t3 hcode ?q1 ?q2 ?q3 fun fs cds cts => ?_
  case q0 => exact []
  case q1 => rw [hqual]; rfl
  case q2 => rfl
  case q3 => rfl
  repeat nest_cls
  refine T_Lambda (clos := ?q4) E O.t3 hcode ?q5 ?q6 ?q7 fun fr cd ct => ?_
  case q4 => exact [("signs", c 0)]
  case q5 => rw [hqual]; rfl
  case q6 => rfl
  case q7 => rfl
  repeat nest_cls
  refine T_sf (by tb_start) rfl rfl rfl fun ds => ?_
  repeat nest_cls
  refine c_init O fun x dx o ho hne k w p => ?_
  repeat nest_cls
  have h' : ∀ x dx p fs ds fr c sl o fos fo cds cd qs q w k vs, LexOk B ⟨x, dx, p, fs, ds, fr, c, sl, o, fos, fo, cds, cd, qs, q, w⟩ → Left vs cs →
    Q (.ref x) ((x, .ob o) :: (dx, dn (lexD 1 k (.ref fs) w p)) :: (p, .ls []) :: (fs, .fn fos cds qs) :: (ds, dn [("read", some (.ref fr))]) :: (fr, .fn fo cd q) :: (c, .ce (some (.ref sl))) :: (sl, .ls vs) :: L) := fun x dx p fs ds fr c sl o fos fo cds cd qs q w k vs => h ⟨x, dx, p, fs, ds, fr, c, sl, o, fos, fo, cds, cd, qs, q, w⟩ k vs
  refine fin_lex x dx p fs ds fr (c 0) lr k w (by kct_strs) (h' x dx p fs ds fr (c 0) lr o _ _ _ _ _ _ w k lv.reverse ?ok ?left)
  case ok =>
    refine ⟨ho, hne, ?a1, ?a2, ?a3, ?a4, ?rd⟩
    case a1 => rfl
    case a2 => rfl
    case a3 => exact ⟨_, rfl⟩
    case a4 => exact ⟨_, rfl⟩
    case rd =>
      intro n L L₁ vs Q t hr hfr hc hzz h1 h2
      refine T_rem hr ?_
      refine T_weak ?_
      refine T_nlam [("count", .int 1 t)] [] [("count", .local), ("signs", .free)] [("count", some (.int 1 t))] [("signs", c 0)]
        (List.Mem.tail _ hfr) (by kst_allIn) (by kst_allIn) (by kst_allIn) (by kst_allIn) (by kst_allIn) (by kst_allIn) (by kst_allIn) (by kst_allIn) (by kst_allIn) (of_decide_eq_true rfl) (by kst_allIn) (of_decide_eq_true rfl) (by kst_allIn) (by kst_allIn) (by kst_allIn) (by kst_allIn) (by kst_allIn) fun F₂ env₂ E₂ => ?_
      clear E
      dsimp only at hc hfr
      repeat nest_cls
      dsimp only
      refine T_t_ls (vs := vs) (by tb_rel) (Nat.lt_of_le_of_lt hzz (by decide)) ?_
      refine D_if (fun hne => ?_) (fun he => ?_)
      · have hn : vs ≠ [] := by intro z; subst z; simp at hne
        obtain ⟨ws, v, hv⟩ : ∃ ws v, vs = ws ++ [v] := ⟨vs.dropLast, vs.getLast hn, (List.dropLast_concat_getLast hn).symm⟩
        have h2' := h2 ws v hv
        subst hv
        repeat nest_cls
        refine T_popLast (by tb_start) (Nat.lt_of_lt_of_le (by simp at hzz; omega) (szl (Nat.le_refl 1000))) ?_
        exact ⟨_, by kct_strs, h2'⟩
      · have hn : vs = [] := by cases vs with | nil => rfl | cons a l => simp at he
        have h1' := h1 hn
        subst hn
        repeat nest_cls
        exact ⟨_, by kct_strs, h1' _⟩
  case left =>
    unfold Left
    rw [List.map_reverse]
    exact strsAre_rev hlv'
end
section
variable {B : Bg} {n : Nat} {L L' L₁ L₂ : Led} {env : Env} {s : Shared} {a b : Int} {t u : Tok} {pos : Pos} {x y : Str}
theorem T_getItem_ls {l : Addr} {vs : List Value} {k : Int} {y : Value} {Q : Value → Led → Prop} (hm : (l, It.ls vs) ∈ L) (h0 : 0 ≤ k) (hz : k < 2 ^ 63) (hx : vs[k.toNat]? = some y) (h : Q y L) : T B n (getItem (.ref l) (.int k t)) L Q := fun A hA s S => by
  have hl := (show s.heap.PlainList l vs.toArray from S.its _ hm).isList
  exact wpAny_getItem_list hl h0 hz (by simpa using hx) ⟨L, S, h⟩
theorem T_hAugSub {o i value : Expr} {spos : Pos} {op : Operator} {rest : List Stmt} {Q : Flow → Led → Prop} (h : T B n (execs (.AugAssign (.Subscript o i spos) op value pos :: rest) env) L Q) : T B n (execs (.AugAssign (.Subscript o i spos) op value pos :: rest) env) L Q := h
noncomputable abbrev strIt (ty : String) (x : Str) (t : Tok) (i : Nat) : It := .fl ty [.str x t, .int i 0]
noncomputable def StrTy (ty : String) : Prop := ty = "str_ascii_iterator" ∨ ty = "str_iterator"
theorem strIt_at {h : Heap} {i : Addr} {ty : String} {k : Nat} : (strIt ty x t k).At h i ↔ h.IsStrIter i ty x t k := Iff.rfl
theorem T_iter_str {Q : Value → Led → Prop} (h : ∀ it ty, StrTy ty → Q (.ref it) ((it, strIt ty x t 0) :: L)) : T B n (pyIter (.str x t)) L Q := fun A hA s S => by
  cases ha : x.cps.all (· < 128) with
  | true => exact wpAny_pyIter_ascii ha ⟨_, S.push (it := strIt "str_ascii_iterator" x t 0) rfl fun h' e => ⟨_, e, rfl, rfl⟩, h _ _ (.inl rfl)⟩
  | false => exact wpAny_pyIter_wide ha ⟨_, S.push (it := strIt "str_iterator" x t 0) rfl fun h' e => ⟨_, e, rfl, rfl⟩, h _ _ (.inr rfl)⟩
theorem self_str {ty : String} {it : Addr} {i : Nat} (hty : StrTy ty) (hm : (it, strIt ty x t i) ∈ L) : SelfIter B n (.ref it) L := fun Q h A hA s S => by
  have hi := S.its _ hm
  rcases hty with rfl | rfl
  · exact wpAny_pyIter_striter_ascii (strIt_at.mp hi) ⟨L, S, h⟩
  · exact wpAny_pyIter_striter_wide (strIt_at.mp hi) ⟨L, S, h⟩
theorem T_next_str {ty : String} {it : Addr} {i c : Nat} {Q : Option Value → Led → Prop} (hty : StrTy ty) (hx : x.cps[i]? = some c) (h : ∀ k, Q (some (.str (sg c) k)) ((it, strIt ty x t (i + 1)) :: L)) : T B n (pyNext (.ref it)) ((it, strIt ty x t i) :: L) Q := fun A hA s S => by
  have hi := S.its _ (.head _)
  rcases hty with rfl | rfl
  · exact wpAny_pyNext_ascii_item (strIt_at.mp hi) hx fun h' e hs => ⟨_, St.tp (S.upd (it' := strIt "str_ascii_iterator" x t (i + 1)) hs rfl (strIt_at.mpr e)), h _⟩
  · exact wpAny_pyNext_wide_item (strIt_at.mp hi) hx fun h' e hs => ⟨_, St.tp (S.upd (it' := strIt "str_iterator" x t (i + 1)) hs rfl (strIt_at.mpr e)), h _⟩
theorem T_end_str {ty : String} {it : Addr} {i : Nat} {Q : Option Value → Led → Prop} (hty : StrTy ty) (hx : x.cps[i]? = none) (hne : L ≠ []) (h : Q none L) : T B n (pyNext (.ref it)) ((it, strIt ty x t i) :: L) Q := fun A hA s S => by
  have hi := S.its _ (.head _)
  rcases hty with rfl | rfl
  · exact wpAny_pyNext_ascii_end hA.1 (strIt_at.mp hi) hx fun h' hs => ⟨_, S.ext hs rfl hne, h⟩
  · exact wpAny_pyNext_wide_end hA.1 (strIt_at.mp hi) hx fun h' hs => ⟨_, S.ext hs rfl hne, h⟩
theorem Tc_comp_str {elt target iter : Expr} {scope : Scope} {pos : Pos} {ty : String} {it : Addr} {acc : Value} {cs : List Nat} {cenv : Env} {Q : Flow → Led → Prop} (hty : StrTy ty) (Inv : List Nat → Led → Prop) (hne : ∀ rest L, Inv rest L → L ≠ [])
    (ht : ∀ it v, letOwnedTupleGo target it v = pure ())
    (turn : ∀ (ia : Addr) (X : It) (c : Nat) (k : Tok) (rest : List Nat) (L : Led), Inv (c :: rest) L → T B (n + 1) (assign target cenv (.str (sg c) k)) ((ia, X) :: L) fun ι L₁ => T B (n + 1) (eval elt cenv) L₁ fun y L₂ => T B (n + 1) (call (.builtin "list.append") [acc, y] []) L₂ fun ι L₂ => ∃ L₃, Pick ((ia, X) :: L₃) L₂ ∧ Inv rest L₃)
    (fin : ∀ L, Inv [] L → Q .next L) {L₀ : Led} (hr : Rem (it, strIt ty (toS cs) t 0) L L₀) (h : Inv cs L₀) : Tc B (n + 1) (.compLoop (.ListComp elt [⟨target, iter, [], 0⟩] scope pos) 0 (.ref it) acc cenv) L Q := by
  refine Tc_rem hr (Tc_comp (fun k L => ∃ i L₀ r, L = (it, strIt ty (toS cs) t i) :: L₀ ∧ cs = cs.take i ++ r ∧ k = r.length ∧ Inv r L₀) (fun v => ht _ v) ?_ cs.length ⟨0, L₀, cs, rfl, by simp, rfl, h⟩)
  rintro k L' ⟨i, L₀, r, rfl, hv, hk, hI⟩
  have hd : r = cs.drop i := by
    have := List.take_append_drop i cs
    exact (List.append_cancel_left (this.trans hv)).symm
  cases r with
  | nil => exact T_end_str hty (by unfold toS; simp only [List.getElem?_toArray]; exact List.getElem?_eq_none (List.drop_eq_nil_iff.mp hd.symm)) (hne _ _ hI) (fin _ hI)
  | cons y r =>
    have hx : cs[i]? = some y := by
      have : (cs.drop i)[0]? = some y := by rw [← hd]; rfl
      simpa using this
    refine T_next_str hty (by unfold toS; simp only [List.getElem?_toArray]; exact hx) fun k' => ?_
    refine T_mono (turn it (strIt ty (toS cs) t (i + 1)) y k' r L₀ hI) fun ι L₁ h1 => T_mono h1 fun ι L₁ h1 => T_mono h1 fun f L₂ ⟨L₃, hp, hI'⟩ => ?_
    exact ⟨r.length, _, by rw [hk]; exact Nat.lt_succ_self _, hp, i + 1, L₃, r, rfl, by
      have e : r = cs.drop (i + 1) := by rw [← List.drop_drop, ← hd]; rfl
      rw [e, List.take_append_drop], rfl, hI'⟩
theorem strsAre_of {l : List (Str × Tok)} {ys : List Str} (h : l.map (·.1) = ys) : StrsAre (strValues l) ys := by
  subst h
  induction l with
  | nil => exact .nil
  | cons p l ih => exact .cons _ _ ih
theorem T_split {Q : Value → Led → Prop} (hy : (y.length == 0) = false) (hz : x.length ≤ 99999) (h : ∀ r vs, StrsAre vs (Txt.split x y) → Q (.ref r) ((r, .ls vs) :: L)) : T B n (call (.builtin "str.split") [.str x t, .str y u] []) L Q := fun A hA s S => by
  have hz2 : (Builtin.Str.partsBetween x (Builtin.Str.occurrences x y 0 x.length (x.length + 1)) y.length).length ≤ 100001 := by
    rw [len_partsBetween]
    have := StrLaws.occ_length_le x y 0 x.length (x.length + 1)
    omega
  have q1 : x.length ≤ sizeLine := Nat.le_trans hz (by decide)
  have q2 : (Builtin.Str.partsBetween x (Builtin.Str.occurrences x y 0 x.length (x.length + 1)) y.length).length ≤ sizeLine := Nat.le_trans hz2 (by decide)
  have S1 := S.size
  cases h1 : (decide (x.length < y.length) || decide (Builtin.Str.strKind x < Builtin.Str.strKind y))
  · cases hf : (Builtin.Str.occurrences x y 0 x.length (x.length + 1)).isEmpty
    · refine call_meets PySem.F.slot_str_split (typeIs_str _ _ _) PySem.F.entry_str_split (PySem.F.args_str_split_2 _ _) (meets_str_split_sep x y t u h1 hy hf q1 q2) ?_
      show wants _ _ _ { s with toks := _, heap := s.heap.push { cls := .type "list", data := .seq (strsFrom s.toks (Builtin.Str.partsBetween x (Builtin.Str.occurrences x y 0 x.length (x.length + 1)) y.length)).toArray } }
      rw [strsFrom_eq]
      refine ⟨_, St.toks (S.push (it := .ls _) rfl fun h' e => ⟨_, e⟩) (by omega), h _ _ (strsAre_of ((numbered_texts _ _).trans ?_))⟩
      exact ((if_neg (ne_true_of_eq_false h1)).trans (if_neg (ne_true_of_eq_false hf))).symm
    · refine call_meets PySem.F.slot_str_split (typeIs_str _ _ _) PySem.F.entry_str_split (PySem.F.args_str_split_2 _ _) (meets_str_split_not_found x y t u h1 hy hf) ?_
      exact ⟨_, S.push (it := .ls [.str x t]) rfl fun h' e => ⟨_, e⟩, h _ _ (strsAre_of (l := [(x, t)]) ((if_neg (ne_true_of_eq_false h1)).trans (if_pos hf)).symm)⟩
  · refine call_meets PySem.F.slot_str_split (typeIs_str _ _ _) PySem.F.entry_str_split (PySem.F.args_str_split_2 _ _) (meets_str_split_cannot_occur x y t u h1) ?_
    exact ⟨_, S.push (it := .ls [.str x t]) rfl fun h' e => ⟨_, e⟩, h _ _ (strsAre_of (l := [(x, t)]) (if_pos h1).symm)⟩
theorem T_count {Q : Value → Led → Prop} (h : ∀ k, Q (.int (Txt.count x y) k) L) : T B n (call (.builtin "str.count") [.str x t, .str y u] []) L Q := fun A hA s S => S.up (SC.count (fun hk => ⟨L, S.toks (by assumption), h _⟩))
end
noncomputable def lawFd (P : Params) : Option FuncData := match (KK P).lookup 195 with | some o => (match o.data with | .func fd => some fd | _ => none) | none => none
noncomputable def lawBody (P : Params) : List Stmt := match lawFd P with | some fd => (match fd.body with | .stmts b => b | _ => []) | none => []
noncomputable def bodyFrom (P : Params) (k : Nat) : List Stmt := (lawBody P).drop k
section
variable {B : Bg} {n : Nat} {L : Led} {env : Env} {Q : Flow → Led → Prop} {P : Params}
theorem T_from {k : Nat} {s : Stmt} (e : bodyFrom P k = s :: bodyFrom P (k + 1)) (h : T B n (execs (s :: bodyFrom P (k + 1)) env) L Q) : T B n (execs (bodyFrom P k) env) L Q := by rw [e]; exact h
theorem intsAre5 {vs : List Value} {a b c d e : Int} (h : IntsAre vs [a, b, c, d, e]) : ∃ t0 t1 t2 t3 t4, vs = [.int a t0, .int b t1, .int c t2, .int d t3, .int e t4] := by
  cases h with
  | cons _ t0 h => cases h with
    | cons _ t1 h => cases h with
      | cons _ t2 h => cases h with
        | cons _ t3 h => cases h with
          | cons _ t4 h => cases h; exact ⟨t0, t1, t2, t3, t4, rfl⟩
end
section
variable {B : Bg} {n : Nat} {L L' L₁ L₂ R : Led} {env cenv : Env} {s : Shared} {a b : Int} {t u : Tok} {pos : Pos} {x y : Str} {elt target iter : Expr} {scope : Scope} {l it acc C : Addr} {vs : List Value} {Q : Flow → Led → Prop} {xn : Str}
theorem szk {k : Nat} (h : k ≤ 1000) : k ≤ sizeLine := Nat.le_trans h (by decide)
theorem Tc_comp_g (Inv : List Value → List Value → Led → Prop) (hm : ∀ r av R, Inv r av R → (l, It.ls vs) ∈ R) (hz : ∀ r av R, Inv r av R → av.length ≤ 1000) (ht : ∀ it v, letOwnedTupleGo target it v = pure ())
    (turn : ∀ (ia : Addr) (X : It) (x : Value) (rest : List Value) (o : Option Value) (av : List Value) (R : Led), Inv (x :: rest) av R → T B (n + 1) (assign target cenv x) ((ia, X) :: (C, .ns [(xn, o)]) :: (acc, .ls av) :: R) fun ι L₁ => T B (n + 1) (eval elt cenv) L₁ fun y L₂ => ∃ o' R', Pick ((ia, X) :: (C, .ns [(xn, o')]) :: (acc, .ls av) :: R') L₂ ∧ Inv rest (av ++ [y]) R')
    (fin : ∀ o av R, Inv [] av R → Q .next ((C, .ns [(xn, o)]) :: (acc, .ls av) :: R)) (h : Inv vs [] R) :
    Tc B (n + 1) (.compLoop (.ListComp elt [⟨target, iter, [], 0⟩] scope pos) 0 (.ref it) (.ref acc) cenv) ((C, .ns [(xn, none)]) :: (acc, .ls []) :: (it, lsIter l 0) :: R) Q := by
  refine Tc_comp_ls (l := l) (vs := vs) (fun rs L' => ∃ o av R, L' = (C, .ns [(xn, o)]) :: (acc, .ls av) :: R ∧ Inv rs av R) ?hl ht ?turn ?fin (.tail (.tail .head)) ⟨none, [], R, rfl, h⟩
  case hl => rintro rs L' ⟨o, av, R, rfl, hI⟩; exact .tail _ (.tail _ (hm _ _ _ hI))
  case fin => rintro L' ⟨o, av, R, rfl, hI⟩; exact fin o av R hI
  case turn =>
    rintro ia X x rs L' ⟨o, av, R, rfl, hI⟩
    refine T_mono (turn ia X x rs o av R hI) fun ι L₁ h1 => T_mono h1 fun y L₂ ⟨o', R', hp, hI'⟩ => ?_
    refine T_pick hp (T_append (.tail (.tail .head)) (szk (hz _ _ _ hI)) ?_)
    exact ⟨_, Pick.cons (.tail .head) (Pick.cons (.tail .head) .refl), o', _, R', rfl, hI'⟩
theorem Tc_comp_sone {ty : String} {cs : List Nat} (hty : StrTy ty) (P : List Nat → List Value → Prop) (hz : ∀ r av, P r av → av.length ≤ 1000) (ht : ∀ it v, letOwnedTupleGo target it v = pure ())
    (turn : ∀ (ia : Addr) (X : It) (c : Nat) (k : Tok) (rest : List Nat) (o : Option Value) (av : List Value), P (c :: rest) av → T B (n + 1) (assign target cenv (.str (sg c) k)) ((ia, X) :: (C, .ns [(xn, o)]) :: (acc, .ls av) :: R) fun ι L₁ => T B (n + 1) (eval elt cenv) L₁ fun y L₂ => ∃ o', Pick ((ia, X) :: (C, .ns [(xn, o')]) :: (acc, .ls av) :: R) L₂ ∧ P rest (av ++ [y]))
    (fin : ∀ o av, P [] av → Q .next ((C, .ns [(xn, o)]) :: (acc, .ls av) :: R)) (h : P cs []) :
    Tc B (n + 1) (.compLoop (.ListComp elt [⟨target, iter, [], 0⟩] scope pos) 0 (.ref it) (.ref acc) cenv) ((C, .ns [(xn, none)]) :: (acc, .ls []) :: (it, strIt ty (toS cs) t 0) :: R) Q := by
  refine Tc_comp_str hty (fun rs L' => ∃ o av, L' = (C, .ns [(xn, o)]) :: (acc, .ls av) :: R ∧ P rs av) ?hne ht ?turn ?fin (.tail (.tail .head)) ⟨none, [], rfl, h⟩
  case hne => rintro rs L' ⟨o, av, rfl, hI⟩; exact List.cons_ne_nil _ _
  case fin => rintro L' ⟨o, av, rfl, hI⟩; exact fin o av hI
  case turn =>
    rintro ia X c k rs L' ⟨o, av, rfl, hI⟩
    refine T_mono (turn ia X c k rs o av hI) fun ι L₁ h1 => T_mono h1 fun y L₂ ⟨o', hp, hI'⟩ => ?_
    refine T_pick hp (T_append (.tail (.tail .head)) (szk (hz _ _ hI)) ?_)
    exact ⟨_, Pick.cons (.tail .head) (Pick.cons (.tail .head) .refl), o', _, rfl, hI'⟩
theorem T_sepL {i : Nat} (hi : i < 4) (t0 t1 t2 t3 : Tok) : ∃ t, ([.str "\n" t0, .str " \t" t1, .str "\r\n" t2, .str "  " t3] : List Value)[i]? = some (.str (toS ([[10], [32, 9], [13, 10], [32, 32]].getD i [])) t) := by
  match i, hi with
  | 0, _ => exact ⟨t0, by congr 2; all_goals decide +kernel⟩
  | 1, _ => exact ⟨t1, by congr 2; all_goals decide +kernel⟩
  | 2, _ => exact ⟨t2, by congr 2; all_goals decide +kernel⟩
  | 3, _ => exact ⟨t3, by congr 2; all_goals decide +kernel⟩
end
section
variable {B : Bg} {n : Nat} {L : Led} {env : Env} {ks : List (Str × NameKind)} {F : Addr} {cl : List (Str × Addr)} {pos : Pos}
theorem swap_cell2 {y1 y2 : Str} {p1 p2 p p' : Pos} {es : List Expr} {k k' : Nat} (E : EnvIs env ks F cl) (h1 : (y2, NameKind.cell) ∈ ks) : swappedStores [.Tuple [.Name y1 p1, .Name y2 p2] k p] (.Tuple es k' p') env = pure none := by
  have q1 : env.kindOf y2 = some .cell := E.kd _ h1
  unfold swappedStores
  simp only [List.filterMap_cons, q1]
  split
  · rfl
  · split
    · rfl
    · refine if_pos ?_
      rw [Bool.or_eq_true]
      refine .inl ?_
      have e : ((some NameKind.cell == some NameKind.local) && (p2.line == (([Expr.Name y1 p1, Expr.Name y2 p2].head?.map (·.pos.line)).getD 0))) = false := rfl
      simp only [e]
      split <;> simp
theorem T_hTupC2 {y1 y2 : Str} {p1 p2 tpos p' : Pos} {rest : List Stmt} {es : List Expr} {k k' : Nat} {Q : Flow → Led → Prop} (h : T B n (execs (.Assign [.Tuple [.Name y1 p1, .Name y2 p2] k tpos] (.Tuple es k' p') pos :: rest) env) L Q) : T B n (execs (.Assign [.Tuple [.Name y1 p1, .Name y2 p2] k tpos] (.Tuple es k' p') pos :: rest) env) L Q := h
theorem swaps_comp {x : Str} {px cpos : Pos} {elt : Expr} {gs : List Comprehension} {scope : Scope} {line : Nat} (E : EnvIs env ks F cl) (hk : (x, NameKind.local) ∈ ks) (hl : (px.line == cpos.line) = true) (hn : (scope.names.any fun (n, k) => n == x && (k == .local || k == .cell)) = false) :
    swapsWithSole [.Name x px] (.ListComp elt gs scope cpos) line env = pure true := by
  have q1 : env.kindOf x = some .local := E.kd _ hk
  have q2 : (env.blockKind == .function) = true := by
    have := E.kind
    unfold Env.blockKind
    rw [this]
    rfl
  show (do return env.blockKind == .function && env.kindOf x == some .local && px.line == (Expr.ListComp elt gs scope cpos).pos.line && !(scope.names.any fun (n, k) => n == x && (k == .local || k == .cell)) : Sem Bool) = _
  rw [q1, q2, hn, show (Expr.ListComp elt gs scope cpos).pos = cpos from rfl, hl]
  rfl
end
noncomputable def maskN : List Nat → Nat
  | [] => 0
  | h :: t => 2 ^ h + maskN t
noncomputable def wordOf (hs : List Nat) : Str := Txt.join ", " (if hs = [] then ["0x0"] else hs.map nameOf)
theorem mask_mul : ∀ (l : List Nat) (k : Nat), (∀ h ∈ l, k ≤ h) → ∃ m, maskN l = 2 ^ k * m
  | [], k, _ => ⟨0, rfl⟩
  | h :: t, k, H => by
    obtain ⟨m, e⟩ := mask_mul t k fun x hx => H x (.tail _ hx)
    obtain ⟨d, rfl⟩ := Nat.exists_eq_add_of_le (H h (.head _))
    exact ⟨2 ^ d + m, by show 2 ^ (k + d) + maskN t = _; rw [e, Nat.pow_add, Nat.mul_add]⟩
theorem mask_no {l : List Nat} {i : Nat} (h : ∀ x ∈ l, i + 1 ≤ x) : (maskN l).testBit i = false := by
  obtain ⟨m, e⟩ := mask_mul l (i + 1) h
  rw [e, Nat.testBit_two_pow_mul]
  simp
  omega
theorem mask_yes {t : List Nat} {i : Nat} (h : ∀ x ∈ t, i + 1 ≤ x) : (maskN (i :: t)).testBit i = true := by
  obtain ⟨m, e⟩ := mask_mul t (i + 1) h
  show (2 ^ i + maskN t).testBit i = true
  rw [e, show 2 ^ i + 2 ^ (i + 1) * m = 2 ^ i * (1 + 2 * m) from by rw [Nat.mul_add, Nat.pow_succ, Nat.mul_assoc, Nat.mul_one], Nat.testBit_two_pow_mul]
  simp [Nat.testBit_zero]
theorem and_bit (x i : Nat) : Builtin.bitAnd (x : Int) (2 ^ i : Int) = if x.testBit i = true then (2 ^ i : Int) else 0 := by
  have e : ((2 : Int) ^ i) = ((2 ^ i : Nat) : Int) := by simp
  rw [e]
  unfold Builtin.bitAnd
  simp only [Int.natCast_nonneg, decide_true, Int.toNat_natCast]
  have e2 : x &&& 2 ^ i = if x.testBit i = true then 2 ^ i else 0 := by
    refine Nat.eq_of_testBit_eq fun j => ?_
    rw [Nat.testBit_and, Nat.testBit_two_pow]
    by_cases e : i = j
    · subst e
      cases hx : x.testBit i <;> simp
    · cases hx : x.testBit i <;> simp [e]
  rw [e2]
  split <;> rfl
theorem or_bit {x i : Nat} (h : x.testBit i = true) : x ||| 2 ^ i = x := by
  refine Nat.eq_of_testBit_eq fun j => ?_
  rw [Nat.testBit_or, Nat.testBit_two_pow]
  by_cases e : i = j
  · subst e; simp [h]
  · simp [e]
theorem xor_bit {x i : Nat} (h : x.testBit i = true) : Builtin.bitXor (x : Int) (2 ^ i : Int) = (x : Int) - 2 ^ i := by
  unfold Builtin.bitXor
  rw [and_bit, if_pos h]
  congr 1
  have e : ((2 : Int) ^ i) = ((2 ^ i : Nat) : Int) := by simp
  rw [e]
  unfold Builtin.bitOr Builtin.bitAnd Builtin.bitNot
  have h0 := or_bit h
  generalize 2 ^ i = p at h0
  have h1 : decide (0 ≤ -(x : Int) - 1) = false := by simp; omega
  have h2 : decide (0 ≤ -((p : Nat) : Int) - 1) = false := by simp; omega
  rw [h1, h2]
  have e1 : (-(-(x : Int) - 1) - 1).toNat = x := by omega
  have e2 : (-(-((p : Nat) : Int) - 1) - 1).toNat = p := by omega
  dsimp only
  rw [e1, e2, h0]
  omega
theorem mask_pos (h : Nat) (t : List Nat) : 0 < maskN (h :: t) := by
  show 0 < 2 ^ h + maskN t
  have : 0 < 2 ^ h := Nat.pow_pos (by decide)
  omega
theorem name_lens : ((List.range 16).all fun i => Nat.ble (nameOf i).length 50) = true := by kernel_rfl
theorem name_len (i : Nat) : (nameOf i).length ≤ 50 := by
  by_cases h : i < 16
  · exact Nat.le_of_ble_eq_true (List.all_eq_true.mp name_lens i (List.mem_range.mpr h))
  · unfold nameOf
    rw [List.getD_eq_getElem?_getD, List.getElem?_eq_none (by show 16 ≤ i; omega)]
    decide
theorem joins_w (l : List Nat) (h : l.length ≤ 1000) : ((l.map nameOf).map (·.length)).sum + (l.map nameOf).length ≤ 1048576 := by
  have : ∀ l : List Nat, ((l.map nameOf).map (·.length)).sum ≤ 50 * l.length := by
    intro l
    induction l with
    | nil => simp
    | cons x l ih =>
      have := name_len x
      simp at ih ⊢
      omega
  have := this l
  simp at this ⊢
  omega
theorem hex0 : baseText "0x" 16 0 = Str.ofString "0x0" := by decide +kernel
theorem hex0_len : (baseText "0x" 16 0).length ≤ 1000 := by rw [hex0]; decide +kernel
theorem hex_lens : ((List.range 16).all fun i => Nat.ble (baseText "0x" 16 (2 ^ i)).length 1000) = true := by kernel_rfl
theorem hex_len {i : Nat} (h : i < 16) : (baseText "0x" 16 (2 ^ i)).length ≤ 1000 := Nat.le_of_ble_eq_true (List.all_eq_true.mp hex_lens i (List.mem_range.mpr h))
noncomputable abbrev flagKs : List (Str × NameKind) := [("flags", .local), ("names", .local), ("i", .local), ("flag", .local), ("range", .globalImplicit), ("hex", .globalImplicit), ("COMPILER_FLAG_NAMES", .globalImplicit)]
noncomputable def flagT : List Stmt := fnB (stAt 14)
noncomputable def flagW : List Stmt := forB (nB flagT 1)
section
variable {B : Bg} {n : Nat} {L : Led} {env : Env} {F nl : Addr} {f : Str → Option Value} {vs : List Value} {i m m' : Nat} {t u : Tok} {Q : Flow → Led → Prop} {hs dn r : List Nat} {y : Nat}
set_option maxHeartbeats 4000000
theorem f_0 (E : EnvIs env flagKs F []) (e : f "i" = some (.int (i : Nat) t)) (hi : i ≤ 1000) (h : ∀ k, T B n (execs (flagW.drop 1) env) ((F, .nf (up f "flag" (.int ((2 : Int) ^ i) k))) :: L) Q) : T B n (execs (flagW.drop 0) env) ((F, .nf f) :: L) Q := by
  refine T_fr rfl ?_
  repeat nest_cls
  refine T_shl (by omega) (by omega) (by decide) fun k1 => ?_
  rw [Int.toNat_natCast, Int.one_mul]
  repeat nest_cls
  exact h _
theorem f_n (E : EnvIs env flagKs F []) (e1 : f "flags" = some (.int (m : Nat) t)) (e2 : f "flag" = some (.int ((2 : Int) ^ i) u)) (hb : m.testBit i = false) (h : Q .next ((F, .nf f) :: L)) : T B n (execs (flagW.drop 1) env) ((F, .nf f) :: L) Q := by
  refine T_fr rfl ?_
  repeat nest_cls
  rw [and_bit, hb, if_neg Bool.false_ne_true]
  refine D_no (fun e => e rfl) ?_
  repeat nest_cls
  exact T_nl rfl h
theorem f_y (O : Our B) (E : EnvIs env flagKs F []) (e1 : f "flags" = some (.int (m : Nat) t)) (e2 : f "flag" = some (.int ((2 : Int) ^ i) u)) (e3 : f "names" = some (.ref nl)) (hb : m.testBit i = true) (hi : i < 16) (hm : (m : Int) - 2 ^ i = (m' : Nat)) (hz : vs.length ≤ 100)
    (h1 : m' = 0 → ∀ k k', Q .brk ((F, .nf (up f "flags" (.int (m' : Nat) k'))) :: (nl, .ls (vs ++ [.str (nameOf i) k])) :: L)) (h2 : m' ≠ 0 → ∀ k k', Q .next ((F, .nf (up f "flags" (.int (m' : Nat) k'))) :: (nl, .ls (vs ++ [.str (nameOf i) k])) :: L)) : T B (n + 2) (execs (flagW.drop 1) env) ((F, .nf f) :: (nl, .ls vs) :: L) Q := by
  refine T_fr rfl ?_
  repeat nest_cls
  rw [and_bit, hb, if_pos rfl]
  refine D_yes (Int.ne_of_gt (Int.pow_pos (by decide))) ?_
  repeat nest_cls
  refine ⟨_, cal_cfn O, ?_⟩
  repeat nest_cls
  refine T_hex (szl (hex_len hi)) fun k2 => ?_
  repeat nest_cls
  refine T_cfn O hi rfl fun k3 => ?_
  repeat nest_cls
  refine T_append (by tb_start) (szl (Nat.le_trans hz (by decide))) ?_
  repeat nest_cls
  rw [xor_bit hb, hm]
  by_cases hz0 : m' = 0
  · refine B_yes (by rw [hz0]; rfl) ?_
    repeat nest_cls
    exact h1 hz0 _ _
  · refine B_no (by rw [Bool.not_eq_false']; exact decide_eq_true (fun e => hz0 (Int.ofNat_eq_zero.mp e))) ?_
    repeat nest_cls
    exact T_nl rfl (h2 hz0 _ _)
theorem mask_step {y : Nat} {r : List Nat} : ((maskN (y :: r) : Nat) : Int) - 2 ^ y = (maskN r : Nat) := by
  show ((2 ^ y + maskN r : Nat) : Int) - 2 ^ y = _
  rw [Int.natCast_add, Int.natCast_pow]
  rw [Int.add_comm]
  exact Int.add_sub_cancel ..
theorem mask_zero {r : List Nat} (h : maskN r = 0) : r = [] := by
  cases r with
  | nil => rfl
  | cons z r => exact absurd h (Nat.ne_of_gt (mask_pos z r))
theorem ge_next (h : ∀ x ∈ y :: r, i ≤ x) (hy : y ≠ i) (hr : ∀ x ∈ r, y < x) : ∀ x ∈ y :: r, i + 1 ≤ x := by
  have h1 : i < y := Nat.lt_of_le_of_ne (h y (.head _)) (Ne.symm hy)
  intro x hx
  cases hx with
  | head => exact h1
  | tail _ hx => exact Nat.lt_trans h1 (hr x hx)
inductive InvF (L : Led) (F nl : Addr) (hs : List Nat) : Int → Led → Prop
  | mk {f : Str → Option Value} {dn rm : List Nat} {vs : List Value} {t : Tok} (i : Nat) : f "names" = some (.ref nl) → f "flags" = some (.int (maskN rm : Nat) t) → StrsAre vs (dn.map nameOf) → hs = dn ++ rm → (∀ y ∈ rm, i ≤ y) → (rm = [] → dn = []) → InvF L F nl hs (i : Int) ((F, .nf f) :: (nl, .ls vs) :: L)
set_option tactic.hygienic true in
theorem c_flags (O : Our B) {a : Int} {Q : Value → Led → Prop} (hp : hs.Pairwise (· < ·)) (hb : ∀ h ∈ hs, h < 16) (hl : hs.length ≤ 16) (ha : a = (maskN hs : Int)) (h : ∀ k, Q (.str (wordOf hs) k) L) : T B (n + 3) (call (.ref 85) [.int a t] []) L Q := by
  subst ha
  refine T_weak ?_
  refine T_sdef O 85 [("flags", .int (maskN hs) t)] ["names", "i", "flag"] flagKs [("flags", some (.int (maskN hs) t)), ("names", none), ("i", none), ("flag", none)]
    rfl (by kernel_rfl) rfl rfl (by decide) (by rfl) (by decide) rfl (by rfl) rfl rfl rfl rfl rfl rfl ?_
  intro F env E _ _
  refine T_nfx (P := fun f => f "flags" = some (.int (maskN hs) t)) rfl fun f P => ?_
  show T B (n + 2) (execs (flagT.drop 0) env) _ _
  refine T_fr rfl ?_
  repeat nest_cls
  rename_i nl
  refine T_fr rfl ?_
  repeat nest_cls
  refine T_iter_range (by tb_rel) rfl fun it => ?_
  rw [range_size (by decide)]
  refine Tc_pick (L' := (it, rngIter 0 (32 - 0)) :: (F, .nf (up f "names" (.ref nl))) :: (nl, .ls []) :: L) (by kct_strs) ?_
  refine Tc_for_range (InvF L F nl hs) (fun ι ι => rfl) ?turn (fun ι I => by cases I; exact List.cons_ne_nil _ _) ?fin .head (by decide) (.mk (dn := []) 0 up_eq (up_ne rfl P) .nil rfl (fun ι ι => Nat.zero_le _) fun ι => rfl)
  case turn =>
    intro ia X x tx L' hx I
    cases I with | @mk f dn rm vs t i f1 f2 hv hh hge hz =>
    have hi : i ≤ 1000 := Nat.le_trans (Int.ofNat_le.mp (Int.le_of_lt hx)) (by decide)
    refine T_assignName (T_stf E M2 (.tail .head) ?_)
    refine f_0 E up_eq hi fun k0 => ?_
    have g1 : up (up f "i" (.int (i : Nat) tx)) "flag" (.int ((2 : Int) ^ i) k0) "names" = some (.ref nl) := up_ne rfl (up_ne rfl f1)
    have g2 : up (up f "i" (.int (i : Nat) tx)) "flag" (.int ((2 : Int) ^ i) k0) "flags" = some (.int (maskN rm : Nat) t) := up_ne rfl (up_ne rfl f2)
    have g3 : up (up f "i" (.int (i : Nat) tx)) "flag" (.int ((2 : Int) ^ i) k0) "flag" = some (.int ((2 : Int) ^ i) k0) := up_eq
    generalize up (up f "i" (.int (i : Nat) tx)) "flag" (.int ((2 : Int) ^ i) k0) = f' at g1 g2 g3
    cases rm with
    | nil => exact f_n E g2 g3 (Nat.zero_testBit i) (loop_next ⟨(F, .nf f') :: (nl, .ls vs) :: L, .cons R1 .refl, .mk (i + 1) g1 g2 hv hh (fun ι h => nomatch h) hz⟩)
    | cons y r =>
      have hpr : (y :: r).Pairwise (· < ·) := by rw [hh] at hp; exact (List.pairwise_append.mp hp).2.1
      have hr := (List.pairwise_cons.mp hpr).1
      by_cases hy : y = i
      · subst hy
        have hy16 : y < 16 := hb y (by rw [hh]; exact List.mem_append_right _ (.head _))
        have hl1 : dn.length ≤ 16 := Nat.le_trans (by rw [hh, List.length_append]; exact Nat.le_add_right _ _) hl
        have hl2 : vs.length ≤ 100 := by rw [strsAre_len hv, List.length_map]; exact Nat.le_trans hl1 (by decide)
        have happ : ∀ k, StrsAre (vs ++ [.str (nameOf y) k]) ((dn ++ [y]).map nameOf) := fun k => by rw [List.map_append]; exact strsAre_append hv (.cons _ _ .nil)
        refine T_pick (L' := (F, .nf f') :: (nl, .ls vs) :: (ia, X) :: L) (.cons .head (.cons R1 .refl)) (f_y O E g2 g3 g1 (mask_yes fun x hx => hr x hx) hy16 mask_step hl2 (fun e k k' => ?_) fun e k k' => ?_)
        · have er := mask_zero e
          subst er
          have he : Txt.join ", " ((dn ++ [y]).map nameOf) = wordOf hs := by
            unfold wordOf
            rw [if_neg (by rw [hh]; exact List.append_ne_nil_of_right_ne_nil _ (List.cons_ne_nil _ _)), hh]
          have hq := h
          rw [← he] at hq
          refine loop_brk (seq_next (T_fr rfl ?_))
          have g4 : up f' "flags" (.int (maskN [] : Nat) k') "names" = some (.ref nl) := up_ne rfl g1
          repeat nest_cls
          refine ⟨_, cal_str PySem.F.slot_str_join PySem.F.type_str_join, ?_⟩
          repeat nest_cls
          refine T_join (by tb_rel) (happ k) (by decide) (joins_w _ (by rw [List.length_append]; exact Nat.le_trans (Nat.succ_le_succ hl1) (by decide))) fun k4 => ?_
          repeat nest_cls
          exact ⟨_, by kct_strs, hq _⟩
        · exact loop_next ⟨(F, _) :: (nl, _) :: L, .cons R2 .refl, .mk (y + 1) (up_ne rfl g1) up_eq (happ k) (by rw [hh, List.append_assoc]; rfl) (fun x hx => hr x hx) fun z => absurd (by rw [z]; rfl) e⟩
      · have hgt := ge_next hge hy hr
        exact f_n E g2 g3 (mask_no hgt) (loop_next ⟨(F, .nf f') :: (nl, .ls vs) :: L, .cons R1 .refl, .mk (i + 1) g1 g2 hv hh hgt hz⟩)
  case fin =>
    intro L' I
    generalize e32 : (32 : Int) = x at I
    cases I with | @mk f dn rm vs t i f1 f2 hv hh hge hz =>
    have hrm : rm = [] := by
      cases rm with
      | nil => rfl
      | cons y r => exact absurd (Nat.lt_of_le_of_lt (hge y (.head _)) (hb y (by rw [hh]; exact List.mem_append_right _ (.head _)))) (by have : i = 32 := (Int.ofNat_inj.mp e32).symm; rw [this]; decide)
    subst hrm
    have hdn := hz rfl
    subst hdn
    cases hv
    repeat nest_cls
    rw [show ((maskN [] : Nat) : Int) = 0 from rfl]
    refine T_hex (szl hex0_len) fun k2 => ?_
    rw [hex0]
    repeat nest_cls
    refine T_fr rfl ?_
    repeat nest_cls
    refine ⟨_, cal_str PySem.F.slot_str_join PySem.F.type_str_join, ?_⟩
    repeat nest_cls
    rw [List.nil_append]
    refine T_join (ys := ["0x0"]) (by tb_rel) (.cons _ _ .nil) (by decide) (by decide) fun k4 => ?_
    repeat nest_cls
    have hq := h k4
    have hh' : hs = [] := hh
    rw [hh', show wordOf [] = Txt.join ", " ["0x0"] from rfl] at hq
    exact ⟨_, by kct_strs, hq⟩
end
noncomputable def wordL (h : List Nat) : List Nat := (wordOf h).cps.toList
theorem toS_wordL (h : List Nat) : toS (wordL h) = wordOf h := by
  unfold toS wordL
  cases e : wordOf h
  rfl
theorem name_lens18 : ((List.range 16).all fun i => Nat.ble (nameOf i).length 18) = true := by kernel_rfl
theorem name_len18 {i : Nat} (h : i < 16) : (nameOf i).length ≤ 18 := Nat.le_of_ble_eq_true (List.all_eq_true.mp name_lens18 i (List.mem_range.mpr h))
theorem wordL_len {h : List Nat} (hb : ∀ x ∈ h, x < 16) (hl : h.length ≤ 4) : (wordL h).length ≤ 80 := by
  have e : (wordL h).length = (wordOf h).length := by unfold wordL Str.length; simp
  rw [e]
  unfold wordOf Txt.join
  rw [StrLaws.glued_eq_join]
  refine Nat.le_trans (StrLaws.join_length_le _ _) ?_
  by_cases h0 : h = []
  · rw [if_pos h0]; decide +kernel
  · rw [if_neg h0, List.map_map, List.length_map]
    have : ∀ l : List Nat, (∀ x ∈ l, x < 16) → (l.map fun a => (nameOf a).length).sum ≤ 18 * l.length := by
      intro l
      induction l with
      | nil => intro _; exact Nat.le_refl _
      | cons a l ih =>
        intro hl
        have h1 := name_len18 (hl a (.head _))
        have h2 := ih fun x hx => hl x (.tail _ hx)
        simp only [List.map_cons, List.sum_cons, List.length_cons]
        omega
    have h1 := this h hb
    rw [show ((fun x : Str => x.length) ∘ nameOf) = fun a => (nameOf a).length from rfl]
    have h2 : (Str.ofString ", ").length = 2 := rfl
    rw [h2]
    omega
theorem join_nil_cons (a : List Nat) (ys : List Str) : Txt.join "" (toS a :: ys) = toS (a ++ (Txt.join "" ys).cps.toList) := by
  unfold Txt.join
  rw [StrLaws.glued_eq_join, StrLaws.glued_eq_join]
  cases ys with
  | nil => show toS a = toS (a ++ []); rw [List.append_nil]
  | cons y r =>
    show toS a ++ Str.ofString "" ++ Str.join "" (y :: r) = _
    generalize Str.join "" (y :: r) = z
    apply Str.ext'
    apply Array.toList_inj.mp
    simp [Str.cps_append, toS]
    rfl
theorem joinE (bk : List Nat) : ∀ cs : List Nat, Txt.join "" (cs.map fun c => toS (bk ++ [c])) = toS (cs.flatMap fun c => bk ++ [c])
  | [] => rfl
  | c :: cs => by
    rw [List.map_cons, join_nil_cons, joinE bk cs, List.flatMap_cons]
    simp [toS]
theorem maskN_sum : ∀ h : List Nat, (h.map fun i : Nat => (2 : Int) ^ i).sum = (maskN h : Int)
  | [] => rfl
  | a :: h => by
    simp only [List.map_cons, List.sum_cons, maskN_sum h, maskN]
    push_cast
    rfl
theorem join_bound (bk : List Nat) (hb : bk.length ≤ 1) (w : List Nat) (hw : w.length ≤ 1000) : ((w.map fun c => toS (bk ++ [c])).map (·.length)).sum + (w.map fun c => toS (bk ++ [c])).length ≤ 1048576 := by
  have : ∀ w : List Nat, ((w.map fun c => toS (bk ++ [c])).map (·.length)).sum ≤ 2 * w.length := by
    intro w
    induction w with
    | nil => exact Nat.le_refl _
    | cons c w ih =>
      simp only [List.map_cons, List.sum_cons, toS_len, List.length_append, List.length_cons, List.length_nil]
      simp only [toS_len, List.map_map] at ih ⊢
      omega
  have h1 := this w
  have h2 : (w.map fun c => toS (bk ++ [c])).length = w.length := List.length_map ..
  omega
theorem wordOf_len {h : List Nat} (hb : ∀ x ∈ h, x < 16) (hl : h.length ≤ 4) : (wordOf h).length ≤ 80 := by
  have := wordL_len hb hl
  unfold wordL at this
  simpa [Str.length] using this
noncomputable def kindOf (seed k : Nat) : Nat := seed / 3 ^ k % 3
noncomputable def markL (kind : Nat) : List Nat := if kind < 2 then [34] else []
noncomputable def backL (kind : Nat) : List Nat := if kind = 0 then [] else [92]
noncomputable def sepL (i : Nat) : List Nat := [[10], [32, 9], [13, 10], [32, 32]].getD i []
noncomputable def segL (seed k : Nat) (w : List Nat) : List Nat := markL (kindOf seed k) ++ (w.flatMap fun c => backL (kindOf seed k) ++ [c]) ++ markL (kindOf seed k) ++ sepL ((seed / 81 + k) % 4)
noncomputable def tailL (i : Nat) : List Nat := [[101, 110, 100], [34, 101, 110, 100], [101, 92, 110, 100], [34, 101, 110, 100, 34]].getD i []
theorem tailL_len (i : Nat) : (tailL i).length ≤ 5 := by
  match i with
  | 0 => decide
  | 1 => decide
  | 2 => decide
  | 3 => decide
  | n + 4 => exact Nat.zero_le _
noncomputable def textN (seed : Nat) (ds : List (List Nat)) : Nat → List Nat
  | 0 => []
  | k + 1 => textN seed ds k ++ segL seed k (wordL (ds.getD k []))
theorem flat_len (bk : List Nat) (hb : bk.length ≤ 1) : ∀ w : List Nat, (w.flatMap fun c => bk ++ [c]).length ≤ 2 * w.length
  | [] => Nat.le_refl _
  | c :: w => by
    have := flat_len bk hb w
    rw [List.flatMap_cons, List.length_append, List.length_append]
    simp only [List.length_cons, List.length_nil]
    omega
theorem backL_len (k : Nat) : (backL k).length ≤ 1 := by unfold backL; split <;> decide
theorem markL_len (k : Nat) : (markL k).length ≤ 1 := by unfold markL; split <;> decide
theorem sepL_len (i : Nat) : (sepL i).length ≤ 2 := by
  match i with
  | 0 => decide
  | 1 => decide
  | 2 => decide
  | 3 => decide
  | n + 4 => exact Nat.zero_le _
theorem segL_len (seed k : Nat) (w : List Nat) : (segL seed k w).length ≤ 2 * w.length + 4 := by
  unfold segL
  have h1 := flat_len (backL (kindOf seed k)) (backL_len _) w
  have h2 := markL_len (kindOf seed k)
  have h3 := sepL_len ((seed / 81 + k) % 4)
  simp only [List.length_append]
  omega
theorem textN_len (seed : Nat) (ds : List (List Nat)) (h : ∀ k, (wordL (ds.getD k [])).length ≤ 80) : ∀ k, (textN seed ds k).length ≤ 164 * k
  | 0 => Nat.le_refl _
  | k + 1 => by
    have h1 := textN_len seed ds h k
    have h2 := segL_len seed k (wordL (ds.getD k []))
    have h3 := h k
    show (textN seed ds k ++ segL seed k (wordL (ds.getD k []))).length ≤ _
    rw [List.length_append]
    omega
structure LexLaw (seed : Nat) (ds : List (List Nat)) (rr : Nat → List Nat) : Prop where
  z : rr 0 = textN seed ds 4 ++ tailL (seed % 4)
  tok : ∀ k < 4, tokRun (rr k) = (wordL (ds.getD k []), rr (k + 1))
  fin : tokRun (rr 4) = ([101, 110, 100], [])
  len : ∀ k ≤ 4, (rr k).length ≤ 900
inductive Rws : List (List Nat) → List (Addr × List Value) → Prop
  | nil : Rws [] []
  | cons {d ds r rv rs} : StrsAre rv (d.map nameOf) → Rws ds rs → Rws (d :: ds) ((r, rv) :: rs)
theorem Rws.snoc {d : List Nat} {r : Addr} {rv : List Value} (h : StrsAre rv (d.map nameOf)) : ∀ {ds : List (List Nat)} {rs : List (Addr × List Value)}, Rws ds rs → Rws (ds ++ [d]) (rs ++ [(r, rv)])
  | _, _, .nil => .cons h .nil
  | _, _, .cons h1 h2 => .cons h1 (Rws.snoc h h2)
theorem Rws.len {ds : List (List Nat)} {rs : List (Addr × List Value)} (h : Rws ds rs) : rs.length = ds.length := by
  induction h with
  | nil => rfl
  | cons _ _ ih => simp [ih]
theorem Rws.four {h0 h1 h2 h3 : List Nat} {rs : List (Addr × List Value)} (h : Rws [h0, h1, h2, h3] rs) : ∃ r0 r1 r2 r3 rv0 rv1 rv2 rv3, rs = [(r0, rv0), (r1, rv1), (r2, rv2), (r3, rv3)] ∧ StrsAre rv0 (h0.map nameOf) ∧ StrsAre rv1 (h1.map nameOf) ∧ StrsAre rv2 (h2.map nameOf) ∧ StrsAre rv3 (h3.map nameOf) := by
  cases h with
  | cons a0 h => cases h with
    | cons a1 h => cases h with
      | cons a2 h => cases h with
        | cons a3 h => cases h with
          | nil => exact ⟨_, _, _, _, _, _, _, _, rfl, a0, a1, a2, a3⟩
section
variable {B : Bg} {n : Nat} {L L' L₁ L₂ R : Led} {env cenv : Env} {s : Shared} {a b : Int} {t u : Tok} {pos : Pos} {x y : Str} {l r : Addr} {vs ws : List Value} {Q : Value → Led → Prop}
theorem T_neStrs {xs : List Str} (hm : (l, It.ls vs) ∈ L) (hi : StrsAre vs xs) (hm2 : (r, It.ls ws) ∈ L) (hi2 : StrsAre ws xs) (ok : ∀ x ∈ xs, PyData.strOk x = true) (hn : 1 ≤ n) (h : Q (.bool false) L) : T B n (compareOp .NotEq (.ref l) (.ref r)) L Q := by
  refine T_neData (rd_ls hm (rdAll_strs hi)) (rd_ls hm2 (rdAll_strs hi2)) (by simp only [PyData.canLay0, canLay_strs xs ok]) (by simp only [PyData.canLay0, canLay_strs xs ok]) (by simp only [PyData.depth, depth_strs]; omega) ?_
  rw [show PyData.eqv (.list (xs.map .str)) (.list (xs.map .str)) = PyData.eqvAll (xs.map .str) (xs.map .str) from rfl, eqvAll_strs, decide_eq_true rfl]
  exact h
theorem T_eqStrs {xs : List Str} (hm : (l, It.ls vs) ∈ L) (hi : StrsAre vs xs) (hm2 : (r, It.ls ws) ∈ L) (hi2 : StrsAre ws xs) (ok : ∀ x ∈ xs, PyData.strOk x = true) (hn : 1 ≤ n) (h : Q (.bool true) L) : T B n (compareOp .Eq (.ref l) (.ref r)) L Q := by
  refine T_eqData (rd_ls hm (rdAll_strs hi)) (rd_ls hm2 (rdAll_strs hi2)) (by simp only [PyData.canLay0, canLay_strs xs ok]) (by simp only [PyData.canLay0, canLay_strs xs ok]) (by simp only [PyData.depth, depth_strs]; omega) ?_
  rw [show PyData.eqv (.list (xs.map .str)) (.list (xs.map .str)) = PyData.eqvAll (xs.map .str) (xs.map .str) from rfl, eqvAll_strs, decide_eq_true rfl]
  exact h
theorem T_neInts {xs : List Int} (hm : (l, It.ls vs) ∈ L) (hi : IntsAre vs xs) (hm2 : (r, It.ls ws) ∈ L) (hi2 : IntsAre ws xs) (hn : 1 ≤ n) (h : Q (.bool false) L) : T B n (compareOp .NotEq (.ref l) (.ref r)) L Q := by
  refine T_neData (rd_ls hm (rdAll_ints hi)) (rd_ls hm2 (rdAll_ints hi2)) (by simp only [PyData.canLay0, canLayAll_ints]) (by simp only [PyData.canLay0, canLayAll_ints]) (by simp only [PyData.depth, depth_ints]; omega) ?_
  rw [show PyData.eqv (.list (xs.map .int)) (.list (xs.map .int)) = PyData.eqvAll (xs.map .int) (xs.map .int) from rfl, eqvAll_ints, decide_eq_true rfl]
  exact h
theorem canLay_lists : ∀ xs : List (List Int), PyData.canLayAll0 (xs.map fun x => .list (x.map .int)) = true
  | [] => rfl
  | x :: xs => by simp only [List.map_cons, PyData.canLayAll0, PyData.canLay0, canLayAll_ints, canLay_lists xs, Bool.and_self]
theorem depth_lists : ∀ xs : List (List Int), PyData.depthAll (xs.map fun x => .list (x.map .int)) ≤ 1
  | [] => Nat.zero_le _
  | x :: xs => by
    have := depth_lists xs
    simp only [List.map_cons, PyData.depthAll, PyData.depth, depth_ints]
    omega
theorem T_neLists {xs : List (List Int)} (hm : (l, It.ls vs) ∈ L) (hi : RdAll B L vs (xs.map fun x => .list (x.map .int))) (hm2 : (r, It.ls ws) ∈ L) (hi2 : RdAll B L ws (xs.map fun x => .list (x.map .int))) (hn : 1 ≤ n) (h : Q (.bool false) L) : T B n (compareOp .NotEq (.ref l) (.ref r)) L Q := by
  have hd := depth_lists xs
  refine T_neData (rd_ls hm hi) (rd_ls hm2 hi2) (by simp only [PyData.canLay0, canLay_lists]) (by simp only [PyData.canLay0, canLay_lists]) (by simp only [PyData.depth]; omega) ?_
  rw [show PyData.eqv (.list (xs.map fun x => .list (x.map .int))) (.list (xs.map fun x => .list (x.map .int))) = PyData.eqvAll (xs.map fun x => .list (x.map .int)) (xs.map fun x => .list (x.map .int)) from rfl, eqvAll_lists, decide_eq_true rfl]
  exact h
theorem T_eqLists {xs : List (List Int)} (hm : (l, It.ls vs) ∈ L) (hi : RdAll B L vs (xs.map fun x => .list (x.map .int))) (hm2 : (r, It.ls ws) ∈ L) (hi2 : RdAll B L ws (xs.map fun x => .list (x.map .int))) (hn : 1 ≤ n) (h : Q (.bool true) L) : T B n (compareOp .Eq (.ref l) (.ref r)) L Q := by
  have hd := depth_lists xs
  refine T_eqData (rd_ls hm hi) (rd_ls hm2 hi2) (by simp only [PyData.canLay0, canLay_lists]) (by simp only [PyData.canLay0, canLay_lists]) (by simp only [PyData.depth]; omega) ?_
  rw [show PyData.eqv (.list (xs.map fun x => .list (x.map .int))) (.list (xs.map fun x => .list (x.map .int))) = PyData.eqvAll (xs.map fun x => .list (x.map .int)) (xs.map fun x => .list (x.map .int)) from rfl, eqvAll_lists, decide_eq_true rfl]
  exact h
end
section
variable {B : Bg} {n : Nat} {L L' L₁ L₂ R : Led} {env cenv : Env} {s : Shared} {a b : Int} {t u : Tok} {pos : Pos} {x y : Str} {l r : Addr} {vs ws : List Value}
theorem T_unpackLs2 {v w : Value} {Q : List Value → Led → Prop} (hm : (l, It.ls [v, w]) ∈ L) (h : Q [v, w] L) : T B (n + 1) (unpackItems (.ref l) 2 none) L Q := by
  have hni : ∀ Q' : Bool → Led → Prop, Q' false L → T B (n + 1) (notIterableAtAll (.ref l)) L Q' := fun Q' h A hA s S => by
    have hl := (show s.heap.PlainList l [v, w].toArray from S.its _ hm).isList
    unfold notIterableAtAll
    exact wpAny_bind (wpAny_specialOf hl.typeIs slot_list_iter.lookup (wpAny_pure ⟨L, S, h⟩))
  unfold unpackItems
  refine T_bind (hni _ ?_)
  simp only [Bool.false_eq_true, if_false]
  refine T_bind (T_holding (T_iter_ls hm fun it => ?_))
  show T B (n + 1) (holding [.ref it] (draw (.ref it) 2) >>= _) _ _
  refine T_bind (T_holding ?_)
  show T B (n + 1) (pyNext (.ref it) >>= _) _ _
  refine T_bind (T_next_ls .head hm rfl ?_)
  refine T_bind (T_holding ?_)
  show T B (n + 1) (pyNext (.ref it) >>= _) _ _
  refine T_bind (T_next_ls .head hm rfl ?_)
  refine T_bind (T_holding ?_)
  show T B (n + 1) (pure []) _ _
  refine T_pure (T_pure (T_pure ?_))
  show T B (n + 1) (holding _ (pyNext (.ref it)) >>= _) _ _
  refine T_bind (T_holding (T_end_ls .head hm rfl ?_))
  simp only [Option.isSome_none, Bool.false_eq_true, if_false]
  exact T_pure h
theorem T_asLs2 {elts : List Expr} {k : Nat} {v w : Value} {Q : Unit → Led → Prop} (hm : (l, It.ls [v, w]) ∈ L) (hn : (assignEach elts env).length = 2) (hst : (assignEach elts env).findIdx? (·.1) = none)
    (h : T B (n + 1) (assignInOrder ((assignEach elts env).map (·.2)) [v, w]) L Q) : T B (n + 1) (assign (.Tuple elts k pos) env (.ref l)) L Q := by
  rw [arm_assign_Tuple]
  refine T_bind (T_standAt ?_)
  unfold unpack
  rw [hst, hn]
  exact T_bind (T_holding (T_unpackLs2 hm h))
theorem slice_upto2 {a b c d : Value} : slicePick ([a, b, c, d] : List Value).toArray none (some 2) none = ([a, b] : List Value).toArray := rfl
theorem slice_from2 {a b c d : Value} : slicePick ([a, b, c, d] : List Value).toArray (some 2) none none = ([c, d] : List Value).toArray := (kms_pick_eq _ _ _).trans rfl
end
section
variable {B : Bg} {n : Nat} {L L' L₁ L₂ R : Led} {env cenv : Env} {s : Shared} {a b : Int} {t u : Tok} {pos : Pos} {x y : Str} {elt target iter : Expr} {scope : Scope} {l it acc C : Addr} {vs : List Value} {xn : Str}
noncomputable abbrev tpIter (l : Addr) (i : Nat) : It := .fl "tuple_iterator" [.ref l, .int i 0]
theorem tpIter_at {h : Heap} {i l : Addr} {k : Nat} : (tpIter l k).At h i ↔ h.IsTupleIter i l k := Iff.rfl
theorem isTup_of (S : St B L s) (hm : (l, tup vs) ∈ L) : s.heap.IsTuple l vs.toArray := ⟨_, S.its _ hm, rfl, _, rfl⟩
theorem T_iter_tup {Q : Value → Led → Prop} (hm : (l, tup vs) ∈ L) (h : ∀ it, Q (.ref it) ((it, tpIter l 0) :: L)) : T B n (pyIter (.ref l)) L Q := fun A hA s S =>
  wpAny_pyIter_tuple (isTup_of S hm) ⟨_, S.push (it := tpIter l 0) rfl fun h' e => ⟨_, e, rfl, rfl⟩, h _⟩
theorem self_tup {i : Nat} (hm : (it, tpIter l i) ∈ L) : SelfIter B n (.ref it) L := fun Q h A hA s S => wpAny_pyIter_tupleiter (tpIter_at.mp (S.its _ hm)) ⟨L, S, h⟩
theorem T_next_tup {i : Nat} {v : Value} {Q : Option Value → Led → Prop} (hr : Rem (it, tpIter l i) L L₁) (hm : (l, tup vs) ∈ L₁) (hx : vs[i]? = some v) (h : Q (some v) ((it, tpIter l (i + 1)) :: L₁)) : T B n (pyNext (.ref it)) L Q := fun A hA s S => by
  have S₁ := S.rem hr
  exact wpAny_pyNext_tuple_item (tpIter_at.mp (S₁.its _ (.head _))) (isTup_of S₁ (.tail _ hm)) (by simpa using hx) fun h' e hs => ⟨_, S₁.upd (it' := tpIter l (i + 1)) hs rfl (tpIter_at.mpr e), h⟩
theorem T_end_tup {i : Nat} {Q : Option Value → Led → Prop} (hr : Rem (it, tpIter l i) L L₁) (hm : (l, tup vs) ∈ L₁) (hx : vs[i]? = none) (h : Q none L₁) : T B n (pyNext (.ref it)) L Q := fun A hA s S => by
  have S₁ := S.rem hr
  exact wpAny_pyNext_tuple_end hA.1 (tpIter_at.mp (S₁.its _ (.head _))) (isTup_of S₁ (.tail _ hm)) (by simpa using hx) fun h' hs => ⟨_, S₁.ext hs rfl (List.ne_nil_of_mem hm), h⟩
theorem T_And3 {e1 e2 e3 : Expr} {Q : Value → Led → Prop} (h : T B n (eval e1 env) L fun v L₁ => T B n (truthy v) L₁ fun b L₂ => (b = true → T B n (eval e2 env) L₂ fun v L₃ => T B n (truthy v) L₃ fun b L₄ => (b = true → T B n (eval e3 env) L₄ Q) ∧ (b = false → Q v L₄)) ∧ (b = false → Q v L₂)) : T B n (eval (.BoolOp .And [e1, e2, e3] pos) env) L Q := by
  rw [arm_eval_BoolOp]
  show T B n (eval e1 env >>= _) L Q
  refine T_bind (T_mono h fun v L₁ h1 => T_bind (T_standAt (T_bind (T_holding (T_mono h1 fun b L₂ h2 => ?_)))))
  cases b with
  | false => exact T_pure (h2.2 rfl)
  | true =>
    show T B n (eval e2 env >>= _) L₂ Q
    refine T_bind (T_mono (h2.1 rfl) fun v L₁ h1 => T_bind (T_standAt (T_bind (T_holding (T_mono h1 fun b L₂ h2 => ?_)))))
    cases b with
    | true => exact h2.1 rfl
    | false => exact T_pure (h2.2 rfl)
end
theorem perm_erase_at {l : List Nat} : ∀ {b : Nat} {g : Nat}, l[b]? = some g → l.Perm (g :: l.eraseIdx b) := by
  induction l with
  | nil => intro b g h; simp at h
  | cons x l ih =>
    intro b g h
    cases b with
    | zero => simp at h; subst h; exact List.Perm.refl _
    | succ b =>
      have := ih (b := b) (g := g) (by simpa using h)
      exact (this.cons x).trans (List.Perm.swap ..)
theorem PassR.perm {W : Bool} {hs bs gs : List Nat} {t : Int} {hs' : List Nat} (h : PassR W hs bs gs t hs') : hs.Perm (gs ++ hs') := by
  induction h with
  | nil => exact List.Perm.refl _
  | cons _ hg _ ih => exact (perm_erase_at hg).trans (ih.cons _)
theorem PassR.glen {W : Bool} {hs bs gs : List Nat} {t : Int} {hs' : List Nat} (h : PassR W hs bs gs t hs') : gs.length = bs.length := by
  induction h with
  | nil => rfl
  | cons _ _ _ ih => simp [ih]
theorem PassR.len {W : Bool} {hs bs gs : List Nat} {t : Int} {hs' : List Nat} (h : PassR W hs bs gs t hs') : (hs' ++ bs).length = hs.length := by
  have h1 := h.perm.length_eq
  have h2 := h.glen
  rw [List.length_append] at h1 ⊢
  omega
theorem PassR.all {W : Bool} {hs bs gs : List Nat} {t : Int} {hs' : List Nat} {p : Nat → Prop} (h : PassR W hs bs gs t hs') (h1 : ∀ y ∈ hs, p y) (h2 : ∀ y ∈ bs, p y) : (∀ y ∈ gs, p y) ∧ ∀ y ∈ hs' ++ bs, p y := by
  have hp := h.perm
  refine ⟨fun y hy => h1 y (hp.mem_iff.mpr (List.mem_append_left _ hy)), fun y hy => ?_⟩
  rcases List.mem_append.mp hy with hy | hy
  · exact h1 y (hp.mem_iff.mpr (List.mem_append_right _ hy))
  · exact h2 y hy
noncomputable def nw (x y : Bool) (w : Nat) : Nat := (w + y.toNat) - x.toNat
noncomputable def tk (x y : Bool) (w : Nat) : Bool := x && (y || decide (0 < w))
noncomputable def lf (x y : Bool) (w : Nat) : Bool := (x && !tk x y w) || y
theorem nw_tk (x y : Bool) (w : Nat) : nw x y w + (tk x y w).toNat = w + y.toNat := by
  cases x <;> cases y <;> cases w <;> simp [nw, tk]
theorem lf_tk (x y : Bool) (w : Nat) : (lf x y w).toNat + (tk x y w).toNat = x.toNat + y.toNat := by
  cases x <;> cases y <;> cases w <;> simp [lf, tk]
noncomputable def run (l : List (Bool × Bool)) (w : Nat) : Nat := l.foldl (fun w p => nw p.1 p.2 w) w
noncomputable def outs : List (Bool × Bool) → Nat → List (Bool × Bool)
  | [], _ => []
  | (x, y) :: l, w => (tk x y w, lf x y w) :: outs l (nw x y w)
noncomputable def c1 : List (Bool × Bool) → Nat
  | [] => 0
  | p :: l => p.1.toNat + c1 l
noncomputable def c2 : List (Bool × Bool) → Nat
  | [] => 0
  | p :: l => p.2.toNat + c2 l
theorem run_cons (x y : Bool) (l : List (Bool × Bool)) (w : Nat) : run ((x, y) :: l) w = run l (nw x y w) := rfl
theorem run_append (l m : List (Bool × Bool)) (w : Nat) : run (l ++ m) w = run m (run l w) := List.foldl_append ..
theorem outs_append : ∀ (l m : List (Bool × Bool)) (w : Nat), outs (l ++ m) w = outs l w ++ outs m (run l w)
  | [], _, _ => rfl
  | (x, y) :: l, m, w => by rw [List.cons_append]; simp only [outs]; rw [outs_append l m, run_cons]; rfl
theorem outs_len : ∀ (l : List (Bool × Bool)) (w : Nat), (outs l w).length = l.length
  | [], _ => rfl
  | (x, y) :: l, w => by simp [outs, outs_len l]
theorem mxA {R A B : Nat} (h : A ≤ B) : max R B = max (max R A) B := by rw [Nat.max_assoc, Nat.max_eq_right h]
theorem mxB {R A B : Nat} (h : B ≤ A) : max R A = max (max R A) B := by rw [Nat.max_assoc, Nat.max_eq_left h]
theorem run_max : ∀ (l : List (Bool × Bool)) (w : Nat), run l w = max (run l 0) (w + c2 l - c1 l)
  | [], w => (Nat.zero_max w).symm
  | (x, y) :: l, w => by
    rw [run_cons, run_cons, run_max l, run_max l (nw x y 0)]
    cases x with
    | false => cases y with
      | false =>
        show max (run l 0) (w + c2 l - c1 l) = max (max (run l 0) (0 + c2 l - c1 l)) (w + (0 + c2 l) - (0 + c1 l))
        rw [Nat.zero_add, Nat.zero_add]
        exact mxA (Nat.sub_le_sub_right (Nat.le_add_left _ _) _)
      | true =>
        show max (run l 0) (w + 1 + c2 l - c1 l) = max (max (run l 0) (1 + c2 l - c1 l)) (w + (1 + c2 l) - (0 + c1 l))
        rw [Nat.zero_add, Nat.add_assoc]
        exact mxA (Nat.sub_le_sub_right (Nat.le_add_left _ _) _)
    | true => cases y with
      | false => cases w with
        | zero =>
          show max (run l 0) (0 + c2 l - c1 l) = max (max (run l 0) (0 + c2 l - c1 l)) (0 + (0 + c2 l) - (1 + c1 l))
          rw [Nat.zero_add, Nat.zero_add]
          exact mxB (Nat.sub_le_sub_left (Nat.le_add_left _ _) _)
        | succ w =>
          show max (run l 0) (w + c2 l - c1 l) = max (max (run l 0) (0 + c2 l - c1 l)) (w + 1 + (0 + c2 l) - (1 + c1 l))
          rw [Nat.zero_add, Nat.add_right_comm w 1, Nat.add_comm 1 (c1 l), Nat.add_sub_add_right]
          exact mxA (Nat.sub_le_sub_right (Nat.le_add_left _ _) _)
      | true =>
        show max (run l 0) (w + c2 l - c1 l) = max (max (run l 0) (0 + c2 l - c1 l)) (w + (1 + c2 l) - (1 + c1 l))
        rw [Nat.zero_add, Nat.add_left_comm w 1, Nat.add_sub_add_left]
        exact mxA (Nat.sub_le_sub_right (Nat.le_add_left _ _) _)
theorem run_count : ∀ (l : List (Bool × Bool)) (w : Nat), run l w + c1 (outs l w) = w + c2 l
  | [], w => rfl
  | (x, y) :: l, w => by
    have h1 := run_count l (nw x y w)
    have h2 := nw_tk x y w
    rw [run_cons]
    simp only [outs, c1, c2]
    omega
theorem lf_count : ∀ (l : List (Bool × Bool)) (w : Nat), c2 (outs l w) + c1 (outs l w) = c1 l + c2 l
  | [], w => rfl
  | (x, y) :: l, w => by
    have h1 := lf_count l (nw x y w)
    have h2 := lf_tk x y w
    simp only [outs, c1, c2]
    omega
theorem outs_full : ∀ (l : List (Bool × Bool)) (w : Nat), c1 (outs l w) = c1 l → outs l w = l
  | [], w, _ => rfl
  | (x, y) :: l, w, h => by
    have hle : ∀ (l : List (Bool × Bool)) (w : Nat), c1 (outs l w) ≤ c1 l := by
      intro l
      induction l with
      | nil => intro w; exact Nat.le_refl _
      | cons p l ih =>
        intro w
        obtain ⟨x, y⟩ := p
        have := ih (nw x y w)
        simp only [outs, c1]
        have : (tk x y w).toNat ≤ x.toNat := by cases x <;> cases y <;> cases w <;> simp [tk]
        omega
    have h1 := hle l (nw x y w)
    have h2 : (tk x y w).toNat ≤ x.toNat := by cases x <;> cases y <;> cases w <;> simp [tk]
    simp only [outs, c1] at h
    have h3 : (tk x y w).toNat = x.toNat := by omega
    have h4 := outs_full l (nw x y w) (by omega)
    simp only [outs, h4]
    have h5 := lf_tk x y w
    congr 1
    have e1 : tk x y w = x := by
      generalize tk x y w = a at h3
      cases a <;> cases x <;> simp at h3 ⊢
    have e2 : lf x y w = y := by
      rw [e1] at h5
      generalize lf x y w = a at h5
      cases a <;> cases y <;> simp at h5 ⊢ <;> omega
    rw [e1, e2]
noncomputable def hh (l : List (Bool × Bool)) : Nat := run l 0
theorem hh_fix {l : List (Bool × Bool)} (h : c2 l ≤ c1 l) : run l (hh l) = hh l := by
  rw [run_max]; unfold hh; omega
theorem fix_ge {l : List (Bool × Bool)} {w : Nat} (h : run l w = w) : hh l ≤ w := by
  rw [run_max] at h; unfold hh; omega
theorem fix_outs {l : List (Bool × Bool)} {w : Nat} (hc : c2 l ≤ c1 l) (h : run l w = w) : outs l w = outs l (hh l) := by
  by_cases e : w = hh l
  · rw [e]
  · have h1 := run_count l w
    have h2 := run_count l (hh l)
    rw [hh_fix hc] at h2
    rw [h] at h1
    have h3 : c2 l = c1 l := by
      have := fix_ge h
      rw [run_max] at h
      unfold hh at e this
      omega
    rw [outs_full l w (by omega), outs_full l (hh l) (by omega)]
theorem tk_back (x y : Bool) (w : Nat) : nw (lf x y w) (tk x y w) (nw x y w) = w ∧ tk (lf x y w) (tk x y w) (nw x y w) = y ∧ lf (lf x y w) (tk x y w) (nw x y w) = x := by
  cases x <;> cases y <;> cases w <;> simp [lf, tk, nw]
noncomputable def sw (p : Bool × Bool) : Bool × Bool := (p.2, p.1)
theorem run_back : ∀ (l : List (Bool × Bool)) (w : Nat), run ((outs l w).map sw).reverse (run l w) = w ∧ outs ((outs l w).map sw).reverse (run l w) = (l.map sw).reverse
  | [], w => ⟨rfl, rfl⟩
  | (x, y) :: l, w => by
    obtain ⟨h1, h2⟩ := run_back l (nw x y w)
    obtain ⟨h3, h4, h5⟩ := tk_back x y w
    simp only [outs, List.map_cons, List.reverse_cons, run_cons, run_append, outs_append, h1, h2]
    refine ⟨h3, ?_⟩
    congr 1
    show [(tk (lf x y w) (tk x y w) (nw x y w), lf (lf x y w) (tk x y w) (nw x y w))] = [(y, x)]
    rw [h4, h5]
theorem c_rev : ∀ l : List (Bool × Bool), c1 l.reverse = c1 l ∧ c2 l.reverse = c2 l := by
  have ha : ∀ l m : List (Bool × Bool), c1 (l ++ m) = c1 l + c1 m ∧ c2 (l ++ m) = c2 l + c2 m := by
    intro l m
    induction l with
    | nil => simp [c1, c2]
    | cons p l ih => simp only [List.cons_append, c1, c2, ih.1, ih.2]; omega
  intro l
  induction l with
  | nil => exact ⟨rfl, rfl⟩
  | cons p l ih =>
    rw [List.reverse_cons, (ha _ _).1, (ha _ _).2, ih.1, ih.2]
    simp only [c1, c2]
    omega
theorem c_sw : ∀ l : List (Bool × Bool), c1 (l.map sw) = c2 l ∧ c2 (l.map sw) = c1 l
  | [] => ⟨rfl, rfl⟩
  | p :: l => by
    obtain ⟨h1, h2⟩ := c_sw l
    simp only [List.map_cons, c1, c2, h1, h2, sw]
    exact ⟨trivial, trivial⟩
theorem back {l : List (Bool × Bool)} (hc : c2 l ≤ c1 l) : hh ((outs l (hh l)).map sw).reverse = hh l ∧ outs ((outs l (hh l)).map sw).reverse (hh l) = (l.map sw).reverse := by
  obtain ⟨h1, h2⟩ := run_back l (hh l)
  rw [hh_fix hc] at h1 h2
  refine ⟨?_, h2⟩
  have h3 := run_count l (hh l)
  rw [hh_fix hc] at h3
  have h4 := lf_count l (hh l)
  generalize hm : ((outs l (hh l)).map sw).reverse = m at h1 h2
  have e1 : c1 m = c2 (outs l (hh l)) := by rw [← hm, (c_rev _).1, (c_sw _).1]
  have e2 : c2 m = c1 (outs l (hh l)) := by rw [← hm, (c_rev _).2, (c_sw _).2]
  have hcm : c2 m ≤ c1 m := by omega
  have h5 := fix_ge h1
  refine Nat.le_antisymm h5 ?_
  -- the way back of the way back
  obtain ⟨b1, b2⟩ := run_back m (hh m)
  rw [hh_fix hcm, ← fix_outs hcm h1, h2] at b1
  have e3 : (((l.map sw).reverse).map sw).reverse = l := by
    rw [List.map_reverse, List.reverse_reverse, List.map_map]
    have : (sw ∘ sw) = id := by funext p; rfl
    rw [this, List.map_id]
  rw [e3] at b1
  exact fix_ge b1
noncomputable abbrev Bf := Nat → Bool
noncomputable def letsN (x y : Bf) (n : Nat) : List (Bool × Bool) := (List.range n).map fun m => (x (15 - m), y (15 - m))
noncomputable def st (x y : Bf) (w n : Nat) : Nat := run (letsN x y n) w
theorem letsN_succ (x y : Bf) (n : Nat) : letsN x y (n + 1) = letsN x y n ++ [(x (15 - n), y (15 - n))] := by
  unfold letsN; rw [List.range_succ, List.map_append]; rfl
theorem st_succ (x y : Bf) (w n : Nat) : st x y w (n + 1) = nw (x (15 - n)) (y (15 - n)) (st x y w n) := by
  unfold st; rw [letsN_succ, run_append]; rfl
theorem outsN (x y : Bf) (w : Nat) : ∀ n, outs (letsN x y n) w = (List.range n).map fun m => (tk (x (15 - m)) (y (15 - m)) (st x y w m), lf (x (15 - m)) (y (15 - m)) (st x y w m))
  | 0 => rfl
  | n + 1 => by
    rw [letsN_succ, outs_append, outsN x y w n, List.range_succ, List.map_append]
    rfl
noncomputable def cn (x : Bf) (n : Nat) : Nat := ((List.range n).map fun m => (x (15 - m)).toNat).sum
theorem c_append (l m : List (Bool × Bool)) : c1 (l ++ m) = c1 l + c1 m ∧ c2 (l ++ m) = c2 l + c2 m := by
  induction l with
  | nil => simp [c1, c2]
  | cons p l ih => simp only [List.cons_append, c1, c2, ih.1, ih.2]; omega
theorem c_lets (x y : Bf) : ∀ n, c1 (letsN x y n) = cn x n ∧ c2 (letsN x y n) = cn y n
  | 0 => ⟨rfl, rfl⟩
  | n + 1 => by
    obtain ⟨h1, h2⟩ := c_lets x y n
    rw [letsN_succ, (c_append _ _).1, (c_append _ _).2, h1, h2]
    unfold cn
    rw [List.range_succ, List.map_append, List.map_append, List.sum_append, List.sum_append]
    simp [c1, c2]
structure Tr (x y g r : Bf) (w : Nat) : Prop where
  g : ∀ n < 16, g (15 - n) = tk (x (15 - n)) (y (15 - n)) (st x y w n)
  r : ∀ n < 16, r (15 - n) = lf (x (15 - n)) (y (15 - n)) (st x y w n)
  f : st x y w 16 = w
noncomputable def hx (x y : Bf) : Nat := hh (letsN x y 16)
theorem Tr.outs {x y g r : Bf} {w : Nat} (T : Tr x y g r w) : Mine.Internal.outs (letsN x y 16) w = letsN g r 16 := by
  rw [outsN]
  unfold letsN
  refine List.map_congr_left fun m hm => ?_
  have hm := List.mem_range.mp hm
  rw [T.g m hm, T.r m hm]
theorem Tr.of {x y g r : Bf} {w : Nat} (h : Mine.Internal.outs (letsN x y 16) w = letsN g r 16) (f : st x y w 16 = w) : Tr x y g r w := by
  rw [outsN] at h
  have key : ∀ n < 16, (tk (x (15 - n)) (y (15 - n)) (st x y w n), lf (x (15 - n)) (y (15 - n)) (st x y w n)) = (g (15 - n), r (15 - n)) := by
    intro n hn
    have := congrArg (·[n]?) h
    unfold letsN at this
    simpa [hn] using this
  exact ⟨fun n hn => (Prod.mk.inj (key n hn)).1.symm, fun n hn => (Prod.mk.inj (key n hn)).2.symm, f⟩
theorem Tr.cg {x y g r : Bf} {w : Nat} (T : Tr x y g r w) : cn g 16 = cn y 16 ∧ cn r 16 = cn x 16 := by
  have h1 := run_count (letsN x y 16) w
  have h2 := lf_count (letsN x y 16) w
  have h3 : run (letsN x y 16) w = w := T.f
  rw [T.outs] at h1 h2
  rw [(c_lets g r 16).1] at h1 h2
  rw [(c_lets g r 16).2] at h2
  rw [(c_lets x y 16).2] at h1 h2
  rw [(c_lets x y 16).1] at h2
  omega
theorem Tr.min {x y g r : Bf} {w : Nat} (T : Tr x y g r w) (hc : cn y 16 ≤ cn x 16) : hx x y ≤ w ∧ Tr x y g r (hx x y) := by
  have hc' : c2 (letsN x y 16) ≤ c1 (letsN x y 16) := by rw [(c_lets x y 16).1, (c_lets x y 16).2]; exact hc
  refine ⟨fix_ge T.f, Tr.of ?_ (hh_fix hc')⟩
  have := fix_outs hc' T.f
  unfold hx
  rw [← this, T.outs]
noncomputable def Eq16 (x y : Bf) : Prop := ∀ n < 16, x (15 - n) = y (15 - n)
theorem Eq16.symm {x y : Bf} (h : Eq16 x y) : Eq16 y x := fun n hn => (h n hn).symm
theorem lets_congr {x y x' y' : Bf} (h1 : Eq16 x x') (h2 : Eq16 y y') : letsN x y 16 = letsN x' y' 16 := by
  unfold letsN
  refine List.map_congr_left fun m hm => ?_
  have hm := List.mem_range.mp hm
  rw [h1 m hm, h2 m hm]
theorem st_congr {x y x' y' : Bf} (h1 : Eq16 x x') (h2 : Eq16 y y') (w : Nat) : ∀ n ≤ 16, st x y w n = st x' y' w n
  | 0, _ => rfl
  | n + 1, hn => by rw [st_succ, st_succ, st_congr h1 h2 w n (by omega), h1 n (by omega), h2 n (by omega)]
theorem Tr.congr {x y g r x' y' g' r' : Bf} {w : Nat} (T : Tr x y g r w) (h1 : Eq16 x x') (h2 : Eq16 y y') (h3 : Eq16 g g') (h4 : Eq16 r r') : Tr x' y' g' r' w := by
  refine ⟨fun n hn => ?_, fun n hn => ?_, ?_⟩
  · rw [← h3 n hn, ← h1 n hn, ← h2 n hn, ← st_congr h1 h2 w n (by omega)]; exact T.g n hn
  · rw [← h4 n hn, ← h1 n hn, ← h2 n hn, ← st_congr h1 h2 w n (by omega)]; exact T.r n hn
  · rw [← st_congr h1 h2 w 16 (by omega)]; exact T.f
theorem Tr.uniq {x y g r g' r' : Bf} {w w' : Nat} (T : Tr x y g r w) (T' : Tr x y g' r' w') (hc : cn y 16 ≤ cn x 16) : Eq16 g g' ∧ Eq16 r r' := by
  have h1 := (T.min hc).2
  have h2 := (T'.min hc).2
  exact ⟨fun n hn => by rw [h1.g n hn, h2.g n hn], fun n hn => by rw [h1.r n hn, h2.r n hn]⟩
noncomputable def gOf (x y : Bf) (w : Nat) : Bf := fun p => tk (x p) (y p) (st x y w (15 - p))
noncomputable def rOf (x y : Bf) (w : Nat) : Bf := fun p => lf (x p) (y p) (st x y w (15 - p))
theorem Tr.mk' {x y : Bf} {w : Nat} (f : st x y w 16 = w) : Tr x y (gOf x y w) (rOf x y w) w := by
  refine ⟨fun n hn => ?_, fun n hn => ?_, f⟩
  · unfold gOf; rw [show 15 - (15 - n) = n by omega]
  · unfold rOf; rw [show 15 - (15 - n) = n by omega]
noncomputable def t1 (x y z : Bool) : Bool := x && (y || z)
noncomputable def l1 (x y z : Bool) : Bool := (x && !t1 x y z) || y
theorem yb_bool : ∀ a b c zi zj zk g h : Bool, (g && h) = false → (g && !zk) = false → (h && !zi) = false → ((!g && !h) && (zi != zk)) = false →
    t1 a (t1 b c (zj || g)) (zi && zk) = t1 (t1 a b zi) (t1 (l1 a b zi) c zj) zk ∧
    t1 (l1 a (t1 b c (zj || g)) (zi && zk)) (l1 b c (zj || g)) (zj || h) = l1 (t1 a b zi) (t1 (l1 a b zi) c zj) zk ∧
    l1 (l1 a (t1 b c (zj || g)) (zi && zk)) (l1 b c (zj || g)) (zj || h) = l1 (l1 a b zi) c zj := by decide +kernel
theorem yb_num : ∀ a b c zi zj zk g h : Bool, (g && h) = false → (g && !zk) = false → (h && !zi) = false → ((!g && !h) && (zi != zk)) = false →
    (g = true → (t1 b c (zj || g)).toNat + (t1 a b zi).toNat = b.toNat + (t1 a (t1 b c (zj || g)) (zi && zk)).toNat ∧ b.toNat + (t1 a (t1 b c (zj || g)) (zi && zk)).toNat ≤ 1 + (t1 (l1 a b zi) c zj).toNat + (t1 a b zi).toNat) ∧
    (h = true → t1 b c (zj || g) = t1 (l1 a b zi) c zj ∧ (t1 (l1 a b zi) c zj).toNat + (t1 a b zi).toNat ≤ 1 + b.toNat + (t1 a (t1 b c (zj || g)) (zi && zk)).toNat) ∧
    (g = false → h = false → ((t1 b c (zj || g)).toNat + (t1 a b zi).toNat = b.toNat + (t1 a (t1 b c (zj || g)) (zi && zk)).toNat ∧ (t1 b c (zj || g)).toNat ≤ (t1 (l1 a b zi) c zj).toNat) ∨
      ((t1 b c (zj || g)).toNat = (t1 (l1 a b zi) c zj).toNat ∧ (t1 b c (zj || g)).toNat + (t1 a b zi).toNat ≤ b.toNat + (t1 a (t1 b c (zj || g)) (zi && zk)).toNat)) := by decide +kernel
theorem tk_t1 (x y : Bool) (w : Nat) : tk x y w = t1 x y (decide (0 < w)) := rfl
theorem lf_l1 (x y : Bool) (w : Nat) : lf x y w = l1 x y (decide (0 < w)) := rfl
theorem dec_D (i j k : Nat) : decide (0 < j + (k - i)) = (decide (0 < j) || decide (i < k)) := by
  rw [← Bool.decide_or]
  exact decide_eq_decide.mpr (by omega)
theorem dec_M (i k : Nat) : decide (0 < min i k) = (decide (0 < i) && decide (0 < k)) := by
  rw [← Bool.decide_and]
  exact decide_eq_decide.mpr Nat.lt_min
theorem bd {p : Prop} [Decidable p] (h : p → False) : decide p = false := decide_eq_false h
theorem yb_sum2 {j k j' k' D M D' M' bx x2 c1 c : Nat} (h1 : k' + x2 = k + bx) (h2 : j' + bx = j + c) (h4 : D' + c1 = D + c) (h5 : M' + x2 = M + c1) (h7 : M + D = k + j) : M' + D' = k' + j' := by omega
theorem yb_sum {i j i' j' M E M' E' l bx b2 c1 b1 e2 b c : Nat} (h1 : i' + l = i + b) (h2 : j' + bx = j + c) (h3 : E' + e2 = E + b1) (h4 : M' + b2 = M + c1) (h5 : c1 + b1 = b + c) (h6 : b2 + e2 = l + bx) (h7 : M + E = i + j) : M' + E' = i' + j' := by omega
theorem yb_min {i k i' k' M' l bx c1 c2 b : Nat} (hI : i' + l = i + b) (hK : k' + c2 = k + bx) (hM : M' + c2 = min i k + c1)
    (h1 : i < k → c1 + l = b + c2 ∧ b + c2 ≤ 1 + bx + l) (h2 : k < i → c1 = bx ∧ bx + l ≤ 1 + b + c2) (h3 : i = k → (c1 + l = b + c2 ∧ c1 ≤ bx) ∨ (c1 = bx ∧ c1 + l ≤ b + c2)) : M' = min i' k' := by
  rcases Nat.lt_trichotomy i k with h | h | h
  · obtain ⟨p, q⟩ := h1 h
    clear h1 h2 h3
    rw [Nat.min_eq_left (Nat.le_of_lt h)] at hM
    rw [Nat.min_eq_left (by omega)]; omega
  · clear h1 h2
    subst h
    rw [Nat.min_self] at hM
    rcases h3 rfl with ⟨p, q⟩ | ⟨p, q⟩
    · rw [Nat.min_eq_left (by omega)]; omega
    · rw [Nat.min_eq_right (by omega)]; omega
  · obtain ⟨p, q⟩ := h2 h
    clear h1 h2 h3
    rw [Nat.min_eq_right (Nat.le_of_lt h)] at hM
    rw [Nat.min_eq_right (by omega)]; omega
theorem yb_E {i k j M E : Nat} (h : M + E = i + j) (hM : M = min i k) : E = j + (i - k) := by
  subst hM
  rcases Nat.le_total i k with h1 | h1
  · rw [Nat.min_eq_left h1] at h; rw [Nat.sub_eq_zero_of_le h1]; omega
  · rw [Nat.min_eq_right h1] at h; omega
theorem yb_ME (i j k : Nat) : min i k + (j + (i - k)) = i + j := by
  rcases Nat.le_total i k with h1 | h1
  · rw [Nat.min_eq_left h1, Nat.sub_eq_zero_of_le h1]; rfl
  · rw [Nat.min_eq_right h1]; omega
theorem ybe_local (a b c : Bool) (i j k : Nat) :
    tk a (tk b c (j + (k - i))) (min i k) = tk (tk a b i) (tk (lf a b i) c j) k ∧
    tk (lf a (tk b c (j + (k - i))) (min i k)) (lf b c (j + (k - i))) (j + (i - k)) = lf (tk a b i) (tk (lf a b i) c j) k ∧
    lf (lf a (tk b c (j + (k - i))) (min i k)) (lf b c (j + (k - i))) (j + (i - k)) = lf (lf a b i) c j ∧
    nw b c (j + (k - i)) = nw (lf a b i) c j + (nw (tk a b i) (tk (lf a b i) c j) k - nw a b i) ∧
    nw a (tk b c (j + (k - i))) (min i k) = min (nw a b i) (nw (tk a b i) (tk (lf a b i) c j) k) ∧
    nw (lf a (tk b c (j + (k - i))) (min i k)) (lf b c (j + (k - i))) (j + (i - k)) = nw (lf a b i) c j + (nw a b i - nw (tk a b i) (tk (lf a b i) c j) k) := by
  have q1 : (decide (i < k) && decide (k < i)) = false := by rw [← Bool.decide_and]; exact bd fun h => Nat.lt_asymm h.1 h.2
  have q2 : (decide (i < k) && !decide (0 < k)) = false := by rw [← decide_not, ← Bool.decide_and]; exact bd fun h => h.2 (Nat.lt_of_le_of_lt (Nat.zero_le _) h.1)
  have q3 : (decide (k < i) && !decide (0 < i)) = false := by rw [← decide_not, ← Bool.decide_and]; exact bd fun h => h.2 (Nat.lt_of_le_of_lt (Nat.zero_le _) h.1)
  have q4 : ((!decide (i < k) && !decide (k < i)) && (decide (0 < i) != decide (0 < k))) = false := by
    rcases Nat.lt_trichotomy i k with h | h | h
    · rw [decide_eq_true h]; rfl
    · rw [h, bne_self_eq_false, Bool.and_false]
    · rw [decide_eq_true h, Bool.not_true, Bool.and_false, Bool.false_and]
  obtain ⟨e1, e2, e3⟩ := yb_bool a b c _ (decide (0 < j)) _ _ _ q1 q2 q3 q4
  obtain ⟨n1, n2, n3⟩ := yb_num a b c _ (decide (0 < j)) _ _ _ q1 q2 q3 q4
  rw [← dec_M, ← dec_D] at e1 e2 e3 n1 n2 n3
  rw [← dec_D k j i] at e2 e3
  simp only [← tk_t1, ← lf_l1] at e1 e2 e3 n1 n2 n3
  have s1 := nw_tk a b i
  have s2 := nw_tk (lf a b i) c j
  have s3 := nw_tk (tk a b i) (tk (lf a b i) c j) k
  have s4 := nw_tk b c (j + (k - i))
  have s5 := nw_tk a (tk b c (j + (k - i))) (min i k)
  have s6 := nw_tk (lf a (tk b c (j + (k - i))) (min i k)) (lf b c (j + (k - i))) (j + (i - k))
  have u4 := lf_tk b c (j + (k - i))
  have u3 := lf_tk (tk a b i) (tk (lf a b i) c j) k
  rw [e1] at s5 n1 n2 n3
  rw [e2] at s6
  have hmin := yb_min s1 s3 s5 (fun h => n1 (decide_eq_true h)) (fun h => ⟨congrArg Bool.toNat (n2 (decide_eq_true h)).1, (n2 (decide_eq_true h)).2⟩)
    (fun h => n3 (bd fun z => Nat.ne_of_lt z h) (bd fun z => Nat.ne_of_gt z h))
  have hE := yb_sum s1 s2 s6 s5 ((Nat.add_comm _ _).trans u4) ((Nat.add_comm _ _).trans u3) (yb_ME i j k)
  have hD := yb_sum2 s3 s2 s4 s5 (by rw [Nat.min_comm]; exact yb_ME k j i)
  exact ⟨e1, e2, e3, yb_E hD (hmin.trans (Nat.min_comm _ _)), hmin, yb_E hE hmin⟩
theorem ybe_run {a b c l r bx r2 bx2 l2 : Bf} {i j k : Nat}
    (hl : ∀ n < 16, l (15 - n) = tk (a (15 - n)) (b (15 - n)) (st a b i n)) (hr : ∀ n < 16, r (15 - n) = lf (a (15 - n)) (b (15 - n)) (st a b i n))
    (hbx : ∀ n < 16, bx (15 - n) = tk (r (15 - n)) (c (15 - n)) (st r c j n)) (hr2 : ∀ n < 16, r2 (15 - n) = lf (r (15 - n)) (c (15 - n)) (st r c j n))
    (hb2 : ∀ n < 16, bx2 (15 - n) = tk (l (15 - n)) (bx (15 - n)) (st l bx k n)) (hl2 : ∀ n < 16, l2 (15 - n) = lf (l (15 - n)) (bx (15 - n)) (st l bx k n))
    {c1 b1 c2 a1 b2 a2 : Bf} {i' j' k' : Nat} (hi : i' = j + (i - k)) (hj : j' = min i k) (hk : k' = j + (k - i))
    (hc1 : ∀ n < 16, c1 (15 - n) = tk (b (15 - n)) (c (15 - n)) (st b c k' n)) (hb1 : ∀ n < 16, b1 (15 - n) = lf (b (15 - n)) (c (15 - n)) (st b c k' n))
    (hc2 : ∀ n < 16, c2 (15 - n) = tk (a (15 - n)) (c1 (15 - n)) (st a c1 j' n)) (ha1 : ∀ n < 16, a1 (15 - n) = lf (a (15 - n)) (c1 (15 - n)) (st a c1 j' n))
    (hb2' : ∀ n < 16, b2 (15 - n) = tk (a1 (15 - n)) (b1 (15 - n)) (st a1 b1 i' n)) (ha2 : ∀ n < 16, a2 (15 - n) = lf (a1 (15 - n)) (b1 (15 - n)) (st a1 b1 i' n)) :
    ∀ n ≤ 16, (st b c k' n = st r c j n + (st l bx k n - st a b i n) ∧ st a c1 j' n = min (st a b i n) (st l bx k n) ∧ st a1 b1 i' n = st r c j n + (st a b i n - st l bx k n)) ∧
      ∀ m < n, c2 (15 - m) = bx2 (15 - m) ∧ b2 (15 - m) = l2 (15 - m) ∧ a2 (15 - m) = r2 (15 - m)
  | 0, _ => ⟨⟨hk, hj, hi⟩, fun m hm => absurd hm (Nat.not_lt_zero _)⟩
  | n + 1, hn => by
    have hn' : n < 16 := hn
    obtain ⟨⟨e1, e2, e3⟩, ih⟩ := ybe_run hl hr hbx hr2 hb2 hl2 hi hj hk hc1 hb1 hc2 ha1 hb2' ha2 n (by omega)
    obtain ⟨q1, q2, q3, q4, q5, q6⟩ := ybe_local (a (15 - n)) (b (15 - n)) (c (15 - n)) (st a b i n) (st r c j n) (st l bx k n)
    rw [← e1] at q1 q2 q3 q4 q5 q6
    rw [← e2] at q1 q2 q3 q5 q6
    rw [← e3] at q2 q3 q6
    rw [← hc1 n hn', ← hl n hn', ← hr n hn', ← hbx n hn', ← hc2 n hn', ← hb2 n hn'] at q1
    rw [← hc1 n hn', ← hl n hn', ← hr n hn', ← hbx n hn', ← ha1 n hn', ← hb1 n hn', ← hl2 n hn'] at q2
    rw [← hc1 n hn', ← hr n hn', ← ha1 n hn', ← hb1 n hn', ← hr2 n hn'] at q3
    rw [← hl n hn', ← hr n hn', ← hbx n hn'] at q4
    rw [← hc1 n hn', ← hl n hn', ← hr n hn', ← hbx n hn'] at q5
    rw [← hc1 n hn', ← hl n hn', ← hr n hn', ← hbx n hn', ← ha1 n hn', ← hb1 n hn'] at q6
    rw [← hb2' n hn'] at q2
    rw [← ha2 n hn'] at q3
    refine ⟨⟨?_, ?_, ?_⟩, fun m hm => ?_⟩
    · rw [st_succ, st_succ, st_succ, st_succ]; exact q4
    · rw [st_succ, st_succ, st_succ]; exact q5
    · rw [st_succ, st_succ, st_succ, st_succ]; exact q6
    · rcases Nat.lt_succ_iff_lt_or_eq.mp hm with hm | rfl
      · exact ih m hm
      · exact ⟨q1, q2, q3⟩
theorem yb_invol (i j k : Nat) : i = min i k + ((j + (i - k)) - (j + (k - i))) ∧ j = min (j + (i - k)) (j + (k - i)) ∧ k = min i k + ((j + (k - i)) - (j + (i - k))) := by
  rw [Nat.add_sub_add_left, Nat.add_sub_add_left]
  rcases Nat.le_total i k with h | h
  · rw [Nat.min_eq_left h, Nat.sub_eq_zero_of_le h, Nat.zero_sub, Nat.sub_zero, Nat.add_zero, Nat.add_zero, Nat.min_eq_left (Nat.le_add_right _ _), Nat.add_sub_cancel' h]
    exact ⟨rfl, rfl, rfl⟩
  · rw [Nat.min_eq_right h, Nat.sub_eq_zero_of_le h, Nat.zero_sub, Nat.sub_zero, Nat.add_zero, Nat.add_zero, Nat.min_eq_right (Nat.le_add_right _ _), Nat.add_sub_cancel' h]
    exact ⟨rfl, rfl, rfl⟩
theorem yb_inv {a b c i j k : Nat} (f4 : k = b + (c - a)) (f5 : j = min a c) (f6 : i = b + (a - c)) : a = j + (i - k) ∧ b = min i k ∧ c = j + (k - i) := by
  subst f4 f5 f6
  have h := yb_invol a b c
  exact ⟨h.1, h.2.1, h.2.2⟩
theorem yb_fin1 {i j k i' j' k' : Nat} (h : i ≤ k) (k1 : k' ≤ j + (k - i)) (k2 : j' ≤ i) (k3 : i' ≤ j) (z1 : i ≤ j' + (i' - k')) (z2 : j ≤ i') (z2' : j ≤ k') (z3 : k ≤ j' + (k' - i')) : i + j = i' + j' ∧ j + k = j' + k' := by
  have e : i' = j := Nat.le_antisymm k3 z2
  subst e
  have e2 : i' - k' = 0 := Nat.sub_eq_zero_of_le z2'
  rw [e2] at z1
  have e3 : j' = i := Nat.le_antisymm k2 z1
  subst e3
  exact ⟨Nat.add_comm _ _, by omega⟩
theorem yb_fin {i j k i' j' k' : Nat} (k1 : k' ≤ j + (k - i)) (k2 : j' ≤ min i k) (k3 : i' ≤ j + (i - k)) (z1 : i ≤ j' + (i' - k')) (z2 : j ≤ min i' k') (z3 : k ≤ j' + (k' - i')) : i + j = i' + j' ∧ j + k = j' + k' := by
  have z4 := Nat.le_min.mp z2
  rcases Nat.le_total i k with h | h
  · rw [Nat.min_eq_left h] at k2
    rw [Nat.sub_eq_zero_of_le h] at k3
    exact yb_fin1 h k1 k2 k3 z1 z4.1 z4.2 z3
  · rw [Nat.min_eq_right h] at k2
    rw [Nat.sub_eq_zero_of_le h] at k1
    have := yb_fin1 h k3 k2 k1 z3 z4.2 z4.1 z1
    exact ⟨by rw [Nat.add_comm i, this.2, Nat.add_comm], by rw [Nat.add_comm j, this.1, Nat.add_comm]⟩
theorem ybe {a b c l r bx r2 bx2 l2 c1 b1 c2 a1 b2 a2 : Bf} {i j k i' j' k' : Nat} (hab : cn b 16 ≤ cn a 16) (hbc : cn c 16 ≤ cn b 16)
    (T1 : Tr a b l r i) (m1 : i = hx a b) (T2 : Tr r c bx r2 j) (m2 : j = hx r c) (T3 : Tr l bx bx2 l2 k) (m3 : k = hx l bx)
    (U1 : Tr b c c1 b1 k') (u1 : k' = hx b c) (U2 : Tr a c1 c2 a1 j') (u2 : j' = hx a c1) (U3 : Tr a1 b1 b2 a2 i') (u3 : i' = hx a1 b1) :
    Eq16 c2 bx2 ∧ Eq16 b2 l2 ∧ Eq16 a2 r2 ∧ i + j = i' + j' ∧ j + k = j' + k' := by
  have g1 := T1.cg
  have g2 := T2.cg
  have v1 := U1.cg
  have v2 := U2.cg
  -- the other order from the image of this one
  have R := ybe_run T1.g T1.r T2.g T2.r T3.g T3.r (i' := j + (i - k)) (j' := min i k) (k' := j + (k - i)) rfl rfl rfl
    (c1 := gOf b c (j + (k - i))) (b1 := rOf b c (j + (k - i))) (c2 := gOf a (gOf b c (j + (k - i))) (min i k)) (a1 := rOf a (gOf b c (j + (k - i))) (min i k))
    (b2 := gOf (rOf a (gOf b c (j + (k - i))) (min i k)) (rOf b c (j + (k - i))) (j + (i - k))) (a2 := rOf (rOf a (gOf b c (j + (k - i))) (min i k)) (rOf b c (j + (k - i))) (j + (i - k)))
    (fun n hn => by unfold gOf; rw [show 15 - (15 - n) = n by omega]) (fun n hn => by unfold rOf; rw [show 15 - (15 - n) = n by omega])
    (fun n hn => by rw [show gOf a (gOf b c (j + (k - i))) (min i k) (15 - n) = tk (a (15 - n)) (gOf b c (j + (k - i)) (15 - n)) (st a (gOf b c (j + (k - i))) (min i k) (15 - (15 - n))) from rfl, show 15 - (15 - n) = n by omega])
    (fun n hn => by rw [show rOf a (gOf b c (j + (k - i))) (min i k) (15 - n) = lf (a (15 - n)) (gOf b c (j + (k - i)) (15 - n)) (st a (gOf b c (j + (k - i))) (min i k) (15 - (15 - n))) from rfl, show 15 - (15 - n) = n by omega])
    (fun n hn => by
      show tk _ _ (st _ _ _ (15 - (15 - n))) = _
      rw [show 15 - (15 - n) = n by omega])
    (fun n hn => by
      show lf _ _ (st _ _ _ (15 - (15 - n))) = _
      rw [show 15 - (15 - n) = n by omega]) 16 (Nat.le_refl _)
  rw [T1.f, T2.f, T3.f] at R
  obtain ⟨⟨f1, f2, f3⟩, out⟩ := R
  have W1 : Tr b c _ _ (j + (k - i)) := Tr.mk' f1
  have W2 := Tr.mk' f2
  have W3 := Tr.mk' f3
  obtain ⟨p1, p2⟩ := U1.uniq W1 hbc
  have W2' := W2.congr (fun n hn => rfl) p1.symm (fun n hn => rfl) (fun n hn => rfl)
  have w2 : cn c1 16 ≤ cn a 16 := Nat.le_trans (Nat.le_of_eq v1.1) (Nat.le_trans hbc hab)
  have w3 : cn b1 16 ≤ cn a1 16 := Nat.le_trans (Nat.le_of_eq v1.2) (Nat.le_trans hab (Nat.le_of_eq v2.2.symm))
  have x2 : cn c 16 ≤ cn r 16 := Nat.le_trans (Nat.le_trans hbc hab) (Nat.le_of_eq g1.2.symm)
  have x3 : cn bx 16 ≤ cn l 16 := Nat.le_trans (Nat.le_of_eq g2.1) (Nat.le_trans hbc (Nat.le_of_eq g1.1.symm))
  obtain ⟨p3, p4⟩ := U2.uniq W2' w2
  have W3' := W3.congr p4.symm p2.symm (fun n hn => rfl) (fun n hn => rfl)
  obtain ⟨p5, p6⟩ := U3.uniq W3' w3
  have k1 := (W1.min hbc).1
  have k2 := (W2'.min w2).1
  have k3 := (W3'.min w3).1
  -- and back
  have R2 := ybe_run (a := a) (b := b) (c := c) (i := j' + (i' - k')) (j := min i' k') (k := j' + (k' - i'))
    (l := gOf a b (j' + (i' - k'))) (r := rOf a b (j' + (i' - k'))) (bx := gOf (rOf a b (j' + (i' - k'))) c (min i' k')) (r2 := rOf (rOf a b (j' + (i' - k'))) c (min i' k'))
    (bx2 := gOf (gOf a b (j' + (i' - k'))) (gOf (rOf a b (j' + (i' - k'))) c (min i' k')) (j' + (k' - i'))) (l2 := rOf (gOf a b (j' + (i' - k'))) (gOf (rOf a b (j' + (i' - k'))) c (min i' k')) (j' + (k' - i')))
    (fun n hn => by show tk _ _ (st _ _ _ (15 - (15 - n))) = _; rw [show 15 - (15 - n) = n by omega]) (fun n hn => by show lf _ _ (st _ _ _ (15 - (15 - n))) = _; rw [show 15 - (15 - n) = n by omega])
    (fun n hn => by show tk _ _ (st _ _ _ (15 - (15 - n))) = _; rw [show 15 - (15 - n) = n by omega]) (fun n hn => by show lf _ _ (st _ _ _ (15 - (15 - n))) = _; rw [show 15 - (15 - n) = n by omega])
    (fun n hn => by show tk _ _ (st _ _ _ (15 - (15 - n))) = _; rw [show 15 - (15 - n) = n by omega]) (fun n hn => by show lf _ _ (st _ _ _ (15 - (15 - n))) = _; rw [show 15 - (15 - n) = n by omega])
    (i' := i') (j' := j') (k' := k') (yb_invol i' j' k').1 (yb_invol i' j' k').2.1 (yb_invol i' j' k').2.2 U1.g U1.r U2.g U2.r U3.g U3.r 16 (Nat.le_refl _)
  rw [U1.f, U2.f, U3.f] at R2
  obtain ⟨⟨f4, f5, f6⟩, _⟩ := R2
  obtain ⟨f7, f8, f9⟩ := yb_inv f4 f5 f6
  have V1 : Tr a b _ _ (j' + (i' - k')) := Tr.mk' f7
  have V2 : Tr (rOf a b (j' + (i' - k'))) c _ _ (min i' k') := Tr.mk' f8
  have V3 : Tr (gOf a b (j' + (i' - k'))) (gOf (rOf a b (j' + (i' - k'))) c (min i' k')) _ _ (j' + (k' - i')) := Tr.mk' f9
  obtain ⟨r1, r2'⟩ := T1.uniq V1 hab
  have V2' := V2.congr r2'.symm (fun n hn => rfl) (fun n hn => rfl) (fun n hn => rfl)
  obtain ⟨r3, r4⟩ := T2.uniq V2' x2
  have V3' := V3.congr r1.symm r3.symm (fun n hn => rfl) (fun n hn => rfl)
  have z1 := (V1.min hab).1
  have z2 := (V2'.min x2).1
  have z3 := (V3'.min x3).1
  rw [← u1] at k1
  rw [← u2] at k2
  rw [← u3] at k3
  rw [← m1] at z1
  rw [← m2] at z2
  rw [← m3] at z3
  have hfin := yb_fin k1 k2 k3 z1 z2 z3
  refine ⟨fun n hn => ?_, fun n hn => ?_, fun n hn => ?_, hfin.1, hfin.2⟩
  · rw [p3 n hn]; exact (out n hn).1
  · rw [p5 n hn]; exact (out n hn).2.1
  · rw [p6 n hn]; exact (out n hn).2.2
noncomputable def lets (x y : Bf) : Nat → List (Bool × Bool)
  | 0 => []
  | k + 1 => (x k, y k) :: lets x y k
theorem lets16 (x y : Bf) : lets x y 16 = letsN x y 16 := rfl
noncomputable def rk (x y : Bf) (k c : Nat) : Nat := run (lets x y k) c
theorem rk_zero (x y : Bf) (c : Nat) : rk x y 0 c = c := rfl
theorem rk_succ (x y : Bf) (k c : Nat) : rk x y (k + 1) c = rk x y k (nw (x k) (y k) c) := rfl
noncomputable def tkn (x y : Bf) : Nat → Nat → List Nat
  | 0, _ => []
  | k + 1, c => if tk (x k) (y k) c = true then k :: tkn x y k (nw (x k) (y k) c) else tkn x y k (nw (x k) (y k) c)
theorem tkn_succ (x y : Bf) (k c : Nat) : tkn x y (k + 1) c = if tk (x k) (y k) c = true then k :: tkn x y k (nw (x k) (y k) c) else tkn x y k (nw (x k) (y k) c) := rfl
set_option tactic.hygienic true in
theorem tkn_lt {x y : Bf} : ∀ {k c p : Nat}, p ∈ tkn x y k c → p < k ∧ x p = true
  | 0, c, p, h => nomatch h
  | k + 1, c, p, h => by
    rw [tkn_succ] at h
    split at h
    · rename_i ht
      rcases List.mem_cons.mp h with rfl | h
      · refine ⟨Nat.lt_succ_self _, ?_⟩
        unfold tk at ht
        exact (Bool.and_eq_true_iff.mp ht).1
      · have := tkn_lt h; exact ⟨Nat.lt_succ_of_lt this.1, this.2⟩
    · have := tkn_lt h; exact ⟨Nat.lt_succ_of_lt this.1, this.2⟩
theorem tkn_nd (x y : Bf) : ∀ (k c : Nat), (tkn x y k c).Nodup
  | 0, c => List.nodup_nil
  | k + 1, c => by
    rw [tkn_succ]
    split
    · refine List.nodup_cons.mpr ⟨fun h => ?_, tkn_nd x y k _⟩
      have := (tkn_lt h).1
      omega
    · exact tkn_nd x y k _
theorem lets_cong {x y x' y' : Bf} : ∀ {k : Nat}, (∀ p < k, x p = x' p ∧ y p = y' p) → lets x y k = lets x' y' k
  | 0, _ => rfl
  | k + 1, h => by
    obtain ⟨h1, h2⟩ := h k (Nat.lt_succ_self _)
    show (x k, y k) :: lets x y k = (x' k, y' k) :: lets x' y' k
    rw [h1, h2, lets_cong fun p hp => h p (Nat.lt_succ_of_lt hp)]
theorem tkn_cong {x y x' y' : Bf} : ∀ {k : Nat} (c : Nat), (∀ p < k, x p = x' p ∧ y p = y' p) → tkn x y k c = tkn x' y' k c
  | 0, _, _ => rfl
  | k + 1, c, h => by
    obtain ⟨h1, h2⟩ := h k (Nat.lt_succ_self _)
    rw [tkn_succ, tkn_succ]
    rw [h1, h2, tkn_cong _ fun p hp => h p (Nat.lt_succ_of_lt hp)]
theorem rk_cong {x y x' y' : Bf} {k : Nat} (c : Nat) (h : ∀ p < k, x p = x' p ∧ y p = y' p) : rk x y k c = rk x' y' k c := by unfold rk; rw [lets_cong h]
set_option tactic.hygienic true in
theorem outs_lets (x y : Bf) : ∀ (k c : Nat), outs (lets x y k) c = lets (fun p => decide (p ∈ tkn x y k c)) (fun p => (x p && !decide (p ∈ tkn x y k c)) || y p) k
  | 0, _ => rfl
  | k + 1, c => by
    show (tk (x k) (y k) c, lf (x k) (y k) c) :: outs (lets x y k) (nw (x k) (y k) c) = (_, _) :: lets _ _ k
    rw [outs_lets x y k]
    have hk : ∀ c', ¬ k ∈ tkn x y k c' := fun c' h => by have := (tkn_lt h).1; omega
    have e : decide (k ∈ tkn x y (k + 1) c) = tk (x k) (y k) c := by
      rw [tkn_succ]
      split
      · rename_i h; simp [h]
      · rename_i h; simp [hk, h]
    have e2 : ∀ p < k, decide (p ∈ tkn x y (k + 1) c) = decide (p ∈ tkn x y k (nw (x k) (y k) c)) := by
      intro p hp
      have hne : p ≠ k := by omega
      rw [tkn_succ]
      split
      · simp [hne]
      · rfl
    congr 1
    · refine Prod.ext e.symm ?_
      show lf (x k) (y k) c = ((x k && !decide (k ∈ tkn x y (k + 1) c)) || y k)
      rw [e]; rfl
    · exact lets_cong fun p hp => ⟨(e2 p hp).symm, by rw [e2 p hp]⟩
theorem Tr.tkn {x y : Bf} (hc : cn y 16 ≤ cn x 16) : Tr x y (fun p => decide (p ∈ tkn x y 16 (hx x y))) (fun p => (x p && !decide (p ∈ Mine.Internal.tkn x y 16 (hx x y))) || y p) (hx x y) := by
  refine Tr.of ?_ ?_
  · rw [← lets16, outs_lets]; rfl
  · exact hh_fix (by rw [(c_lets x y 16).1, (c_lets x y 16).2]; exact hc)
theorem hx_rk (x y : Bf) : hx x y = rk x y 16 0 := rfl
theorem rk_max (x y : Bf) (c : Nat) : rk x y 16 c = max (hx x y) (c + cn y 16 - cn x 16) := by
  unfold rk
  rw [lets16, run_max, (c_lets x y 16).1, (c_lets x y 16).2]
  rfl
section
variable {x xB yA yB : Bf} {g w : Nat} (hg : x g = true) (hxB : ∀ p, xB p = (x p && decide (p ≠ g))) (hyw : yA w = true) (hyB : yB w = false) (hy : ∀ p, p ≠ w → yA p = yB p)
include hg hxB hyw hyB hy
theorem same_low {k : Nat} (h1 : k ≤ g) (h2 : k ≤ w) (c : Nat) : rk x yA k c = rk xB yB k c ∧ tkn x yA k c = tkn xB yB k c := by
  have h : ∀ p < k, x p = xB p ∧ yA p = yB p := fun p hp => ⟨by rw [hxB, decide_eq_true (show p ≠ g by omega), Bool.and_true], hy p (by omega)⟩
  exact ⟨rk_cong c h, tkn_cong c h⟩
theorem xB_g : xB g = false := by rw [hxB]; simp
theorem z2 (h0 : ∀ p, g < p → p ≤ w → x p = false) : ∀ (k : Nat) (c : Nat), g < k → k ≤ w → rk x yA k (c + 1) = rk xB yB k c ∧ (tkn x yA k (c + 1)).Perm (g :: tkn xB yB k c)
  | 0, _, h, _ => absurd h (Nat.not_lt_zero _)
  | k + 1, c, h1, h2 => by
    have hyk := hy k (by omega)
    rw [rk_succ, rk_succ]
    by_cases hk : k = g
    · subst hk
      have hB := xB_g hg hxB hyw hyB hy
      rw [tkn_succ, tkn_succ]
      rw [hg, hB, hyk]
      have e1 : nw true (yB k) (c + 1) = nw false (yB k) c := by simp [nw] <;> omega
      have e2 : tk true (yB k) (c + 1) = true := by simp [tk]
      have e3 : tk false (yB k) c = false := rfl
      obtain ⟨q1, q2⟩ := same_low hg hxB hyw hyB hy (Nat.le_refl _) (show k ≤ w by omega) (nw false (yB k) c)
      rw [e1, e2, e3, if_pos rfl, if_neg Bool.false_ne_true, q1, q2]
      exact ⟨rfl, List.Perm.refl _⟩
    · have hxk := h0 k (by omega) (by omega)
      have hxk2 : xB k = false := by rw [hxB, hxk]; rfl
      obtain ⟨q1, q2⟩ := z2 h0 k (c + (yB k).toNat) (by omega) (by omega)
      rw [tkn_succ, tkn_succ]
      rw [hxk, hxk2, hyk]
      have e1 : nw false (yB k) (c + 1) = c + (yB k).toNat + 1 := by simp [nw] <;> omega
      have e2 : nw false (yB k) c = c + (yB k).toNat := by simp [nw]
      have e3 : ∀ w, tk false (yB k) w = false := fun w => rfl
      rw [e1, e2, e3, e3, if_neg Bool.false_ne_true, if_neg Bool.false_ne_true]
      exact ⟨q1, q2⟩
theorem z1 (hgw : g ≤ w) (h0 : ∀ p, g < p → p ≤ w → x p = false) : ∀ (k : Nat) (c : Nat), w < k → rk x yA k c = rk xB yB k c ∧ (tkn x yA k c).Perm (g :: tkn xB yB k c)
  | 0, _, h => absurd h (Nat.not_lt_zero _)
  | k + 1, c, h1 => by
    rw [rk_succ, rk_succ]
    by_cases hk : k = w
    · subst hk
      rw [tkn_succ, tkn_succ]
      rw [hyw, hyB]
      by_cases hgk : g = k
      · subst hgk
        have hB := xB_g hg hxB hyw hyB hy
        rw [hg, hB]
        have e1 : nw true true c = c := by simp [nw]
        have e2 : nw false false c = c := by simp [nw]
        have e3 : tk true true c = true := rfl
        have e4 : tk false false c = false := rfl
        obtain ⟨q1, q2⟩ := same_low hg hxB hyw hyB hy (Nat.le_refl _) (Nat.le_refl _) c
        rw [e1, e2, e3, e4, if_pos rfl, if_neg Bool.false_ne_true, q1, q2]
        exact ⟨rfl, List.Perm.refl _⟩
      · have hxk := h0 k (by omega) (by omega)
        have hxk2 : xB k = false := by rw [hxB, hxk]; rfl
        rw [hxk, hxk2]
        have e1 : nw false true c = c + 1 := by simp [nw]
        have e2 : nw false false c = c := by simp [nw]
        have e3 : tk false true c = false := rfl
        have e4 : tk false false c = false := rfl
        rw [e1, e2, e3, e4, if_neg Bool.false_ne_true, if_neg Bool.false_ne_true]
        exact z2 hg hxB hyw hyB hy h0 k c (by omega) (Nat.le_refl _)
    · have hyk := hy k hk
      have hxk : xB k = x k := by rw [hxB, decide_eq_true (show k ≠ g by omega), Bool.and_true]
      obtain ⟨q1, q2⟩ := z1 hgw h0 k (nw (x k) (yB k) c) (by omega)
      rw [tkn_succ, tkn_succ]
      rw [hxk, hyk]
      refine ⟨q1, ?_⟩
      split
      · exact (q2.cons k).trans (List.Perm.swap ..)
      · exact q2
theorem v3 (h0 : ∀ p, p ≤ w → x p = false) : ∀ (k : Nat) (c : Nat), k ≤ w → rk x yA k (c + 1) = rk xB yB k c + 1 ∧ tkn x yA k (c + 1) = tkn xB yB k c
  | 0, c, _ => ⟨rfl, rfl⟩
  | k + 1, c, h => by
    have hyk := hy k (by omega)
    have hxk := h0 k (by omega)
    have hxk2 : xB k = false := by rw [hxB, hxk]; rfl
    obtain ⟨q1, q2⟩ := v3 h0 k (c + (yB k).toNat) (by omega)
    rw [rk_succ, rk_succ]
    rw [tkn_succ, tkn_succ]
    rw [hxk, hxk2, hyk]
    have e1 : nw false (yB k) (c + 1) = c + (yB k).toNat + 1 := by simp [nw] <;> omega
    have e2 : nw false (yB k) c = c + (yB k).toNat := by simp [nw]
    have e3 : ∀ w, tk false (yB k) w = false := fun w => rfl
    rw [e1, e2, e3, e3, if_neg Bool.false_ne_true, if_neg Bool.false_ne_true]
    exact ⟨q1, q2⟩
theorem v2 (h0 : ∀ p, p ≤ w → x p = false) : ∀ (k : Nat) (c : Nat), w < k → k ≤ g → rk x yA k c = rk xB yB k c + 1 ∧ tkn x yA k c = tkn xB yB k c
  | 0, _, h, _ => absurd h (Nat.not_lt_zero _)
  | k + 1, c, h1, h2 => by
    rw [rk_succ, rk_succ]
    by_cases hk : k = w
    · subst hk
      have hxk := h0 k (Nat.le_refl _)
      have hxk2 : xB k = false := by rw [hxB, hxk]; rfl
      rw [tkn_succ, tkn_succ]
      rw [hyw, hyB, hxk, hxk2]
      have e1 : nw false true c = c + 1 := by simp [nw]
      have e2 : nw false false c = c := by simp [nw]
      have e3 : tk false true c = false := rfl
      have e4 : tk false false c = false := rfl
      rw [e1, e2, e3, e4, if_neg Bool.false_ne_true, if_neg Bool.false_ne_true]
      exact v3 hg hxB hyw hyB hy h0 k c (Nat.le_refl _)
    · have hyk := hy k hk
      have hxk : xB k = x k := by rw [hxB, decide_eq_true (show k ≠ g by omega), Bool.and_true]
      obtain ⟨q1, q2⟩ := v2 h0 k (nw (x k) (yB k) c) (by omega) (by omega)
      rw [tkn_succ, tkn_succ]
      rw [hxk, hyk]
      exact ⟨q1, by rw [q2]⟩
theorem v1 (hwg : w < g) (h0 : ∀ p, p ≤ w → x p = false) (h1 : ∀ p, g < p → p < 16 → x p = false) : ∀ (k : Nat) (c : Nat), g < k → k ≤ 16 → rk x yA k (c + 1) = rk xB yB k c + 1 ∧ (tkn x yA k (c + 1)).Perm (g :: tkn xB yB k c)
  | 0, _, h, _ => absurd h (Nat.not_lt_zero _)
  | k + 1, c, h2, h3 => by
    have hyk := hy k (by omega)
    rw [rk_succ, rk_succ]
    by_cases hk : k = g
    · subst hk
      have hB := xB_g hg hxB hyw hyB hy
      rw [tkn_succ, tkn_succ]
      rw [hg, hB, hyk]
      have e1 : nw true (yB k) (c + 1) = nw false (yB k) c := by simp [nw] <;> omega
      have e2 : tk true (yB k) (c + 1) = true := by simp [tk]
      have e3 : tk false (yB k) c = false := rfl
      obtain ⟨q1, q2⟩ := v2 hg hxB hyw hyB hy h0 k (nw false (yB k) c) hwg (Nat.le_refl _)
      rw [e1, e2, e3, if_pos rfl, if_neg Bool.false_ne_true, q1, q2]
      exact ⟨rfl, List.Perm.refl _⟩
    · have hxk := h1 k (by omega) (by omega)
      have hxk2 : xB k = false := by rw [hxB, hxk]; rfl
      obtain ⟨q1, q2⟩ := v1 hwg h0 h1 k (c + (yB k).toNat) (by omega) (by omega)
      rw [tkn_succ, tkn_succ]
      rw [hxk, hxk2, hyk]
      have e1 : nw false (yB k) (c + 1) = c + (yB k).toNat + 1 := by simp [nw] <;> omega
      have e2 : nw false (yB k) c = c + (yB k).toNat := by simp [nw]
      have e3 : ∀ w, tk false (yB k) w = false := fun w => rfl
      rw [e1, e2, e3, e3, if_neg Bool.false_ne_true, if_neg Bool.false_ne_true]
      exact ⟨q1, q2⟩
theorem v0 (h0 : ∀ p, p ≤ w → x p = false) : ∀ (k : Nat) (c : Nat), w < k → 1 ≤ rk x yA k c
  | 0, _, h => absurd h (Nat.not_lt_zero _)
  | k + 1, c, h => by
    rw [rk_succ]
    by_cases hk : k = w
    · subst hk
      rw [hyw, h0 k (Nat.le_refl _)]
      have e1 : nw false true c = c + 1 := by simp [nw]
      rw [e1, (v3 hg hxB hyw hyB hy h0 k c (Nat.le_refl _)).1]
      omega
    · exact v0 h0 k _ (by omega)
end
noncomputable def mb (X : List Nat) : Bf := fun p => decide (p ∈ X)
theorem c1_filter (x y : Bf) : ∀ k, c1 (lets x y k) = ((List.range k).filter x).length
  | 0 => rfl
  | k + 1 => by
    show (x k).toNat + c1 (lets x y k) = _
    rw [c1_filter x y k, List.range_succ, List.filter_append, List.length_append]
    cases h : x k <;> simp [h] <;> omega
theorem perm_filter {X : List Nat} (hn : X.Nodup) (hb : ∀ p ∈ X, p < 16) : X.Perm ((List.range 16).filter (mb X)) := by
  refine (List.perm_ext_iff_of_nodup hn (List.nodup_range.filter _)).mpr fun a => ?_
  rw [List.mem_filter, List.mem_range]
  unfold mb
  simp
  exact hb a
theorem cn_len {X : List Nat} (hn : X.Nodup) (hb : ∀ p ∈ X, p < 16) : cn (mb X) 16 = X.length := by
  rw [← (c_lets (mb X) (mb X) 16).1, ← lets16, c1_filter, (perm_filter hn hb).length_eq]
theorem eq16_mem {X Y : List Nat} (hX : ∀ p ∈ X, p < 16) (hY : ∀ p ∈ Y, p < 16) (h : Eq16 (mb X) (mb Y)) : ∀ p, p ∈ X ↔ p ∈ Y := by
  have key : ∀ p < 16, p ∈ X ↔ p ∈ Y := by
    intro p hp
    have := h (15 - p) (by omega)
    rw [show 15 - (15 - p) = p by omega] at this
    unfold mb at this
    simpa using this
  exact fun p => ⟨fun hp => (key p (hX p hp)).mp hp, fun hp => (key p (hY p hp)).mpr hp⟩
theorem mb_perm {X Y : List Nat} (h : X.Perm Y) : mb X = mb Y := by
  funext p
  unfold mb
  exact decide_eq_decide.mpr h.mem_iff
structure PL (X Y G R : List Nat) (t : Nat) : Prop where
  xn : X.Nodup
  xb : ∀ p ∈ X, p < 16
  yn : Y.Nodup
  yb : ∀ p ∈ Y, p < 16
  gn : G.Nodup
  gb : ∀ p ∈ G, p < 16
  rn : R.Nodup
  rb : ∀ p ∈ R, p < 16
  le : Y.length ≤ X.length
  tr : Tr (mb X) (mb Y) (mb G) (mb R) t
  mn : t = hx (mb X) (mb Y)
theorem PL.hc {X Y G R : List Nat} {t : Nat} (P : PL X Y G R t) : cn (mb Y) 16 ≤ cn (mb X) 16 := by rw [cn_len P.yn P.yb, cn_len P.xn P.xb]; exact P.le
theorem PL.glen {X Y G R : List Nat} {t : Nat} (P : PL X Y G R t) : G.length = Y.length := by
  have := P.tr.cg.1
  rwa [cn_len P.gn P.gb, cn_len P.yn P.yb] at this
theorem PL.rlen {X Y G R : List Nat} {t : Nat} (P : PL X Y G R t) : R.length = X.length := by
  have := P.tr.cg.2
  rwa [cn_len P.rn P.rb, cn_len P.xn P.xb] at this
theorem PL.perm {X Y G R X' Y' G' R' : List Nat} {t : Nat} (P : PL X Y G R t) (h1 : X.Perm X') (h2 : Y.Perm Y') (h3 : G.Perm G') (h4 : R.Perm R') : PL X' Y' G' R' t where
  xn := h1.nodup_iff.mp P.xn
  xb := fun p hp => P.xb p (h1.mem_iff.mpr hp)
  yn := h2.nodup_iff.mp P.yn
  yb := fun p hp => P.yb p (h2.mem_iff.mpr hp)
  gn := h3.nodup_iff.mp P.gn
  gb := fun p hp => P.gb p (h3.mem_iff.mpr hp)
  rn := h4.nodup_iff.mp P.rn
  rb := fun p hp => P.rb p (h4.mem_iff.mpr hp)
  le := by rw [← h1.length_eq, ← h2.length_eq]; exact P.le
  tr := by rw [← mb_perm h1, ← mb_perm h2, ← mb_perm h3, ← mb_perm h4]; exact P.tr
  mn := by rw [← mb_perm h1, ← mb_perm h2]; exact P.mn
theorem perm_of {G G' : List Nat} (gn : G.Nodup) (gn' : G'.Nodup) (h : ∀ p, p ∈ G ↔ p ∈ G') : G.Perm G' := (List.perm_ext_iff_of_nodup gn gn').mpr h
theorem PL.of {X Y G R : List Nat} (xn : X.Nodup) (xb : ∀ p ∈ X, p < 16) (yn : Y.Nodup) (yb : ∀ p ∈ Y, p < 16) (le : Y.length ≤ X.length) (hG : G.Perm (tkn (mb X) (mb Y) 16 (hx (mb X) (mb Y)))) (rn : R.Nodup) (hR : ∀ p, p ∈ R ↔ (p ∈ X ∧ ¬ p ∈ G) ∨ p ∈ Y) :
    PL X Y G R (hx (mb X) (mb Y)) where
  xn := xn
  xb := xb
  yn := yn
  yb := yb
  gn := hG.nodup_iff.mpr (tkn_nd _ _ _ _)
  gb := fun p hp => (tkn_lt (hG.mem_iff.mp hp)).1
  rn := rn
  rb := fun p hp => by
    rcases (hR p).mp hp with h | h
    · exact xb p h.1
    · exact yb p h
  le := le
  mn := rfl
  tr := by
    have hc : cn (mb Y) 16 ≤ cn (mb X) 16 := by rw [cn_len yn yb, cn_len xn xb]; exact le
    refine (Tr.tkn hc).congr (fun ι ι => rfl) (fun ι ι => rfl) (fun n hn => ?_) (fun n hn => ?_)
    · unfold mb
      exact decide_eq_decide.mpr hG.mem_iff.symm
    · have e : decide (15 - n ∈ tkn (mb X) (mb Y) 16 (hx (mb X) (mb Y))) = decide (15 - n ∈ G) := decide_eq_decide.mpr hG.mem_iff.symm
      dsimp only
      rw [e]
      unfold mb
      have := hR (15 - n)
      by_cases h1 : 15 - n ∈ X <;> by_cases h2 : 15 - n ∈ G <;> by_cases h3 : 15 - n ∈ Y <;> simp [h1, h2, h3] at this ⊢ <;> simp [this]
theorem tkn_both {x y : Bf} {p : Nat} (hx' : x p = true) (hy : y p = true) : ∀ (k c : Nat), p < k → p ∈ tkn x y k c
  | 0, _, h => absurd h (Nat.not_lt_zero _)
  | k + 1, c, h => by
    rw [tkn_succ]
    by_cases hk : p = k
    · subst hk
      rw [hx', hy]
      exact .head _
    · have := tkn_both hx' hy k (nw (x k) (y k) c) (by omega)
      split
      · exact .tail _ this
      · exact this
theorem PassR.tokens {hs bs gs hs' : List Nat} {t : Int} (h : PassR false hs bs gs t hs') : hs.Nodup → (∀ p ∈ hs, p < 16) → bs.Nodup → (∀ p ∈ bs, p < 16) → bs.length ≤ hs.length →
    t = (hx (mb hs) (mb bs) : Nat) ∧ gs.Perm (tkn (mb hs) (mb bs) 16 (hx (mb hs) (mb bs))) := by
  induction h with
  | @nil hs =>
    intro _ _ _ _ _
    have hz : ∀ (k : Nat), rk (mb hs) (mb []) k 0 = 0 ∧ tkn (mb hs) (mb []) k 0 = [] := by
      intro k
      induction k with
      | zero => exact ⟨rfl, rfl⟩
      | succ k ih =>
        have e1 : mb [] k = false := by unfold mb; simp
        have e2 : nw (mb hs k) false 0 = 0 := by cases mb hs k <;> rfl
        have e3 : tk (mb hs k) false 0 = false := by cases mb hs k <;> rfl
        rw [rk_succ, tkn_succ, e1, e2, e3, if_neg Bool.false_ne_true]
        exact ih
    rw [hx_rk, (hz 16).1]
    exact ⟨rfl, by rw [(hz 16).2]⟩
  | @cons hs w bs b g gs t hs' hB hg hr ih =>
    intro hn hb bn bb hle
    have hgm : g ∈ hs := List.mem_of_getElem? hg
    have hp := perm_erase_at hg
    have hn2 := hp.nodup_iff.mp hn
    obtain ⟨hgn, hen⟩ := List.nodup_cons.mp hn2
    obtain ⟨hwn, hbn⟩ := List.nodup_cons.mp bn
    have heb : ∀ p ∈ hs.eraseIdx b, p < 16 := fun p hp' => hb p (hp.mem_iff.mpr (.tail _ hp'))
    have hlen := hp.length_eq
    simp only [List.length_cons] at hlen hle
    obtain ⟨ih1, ih2⟩ := ih hen heb hbn (fun p hp' => bb p (.tail _ hp')) (by omega)
    have hw16 := bb w (.head _)
    have hg16 := hb g hgm
    have f1 : mb hs g = true := by unfold mb; simpa using hgm
    have f2 : ∀ p, mb (hs.eraseIdx b) p = (mb hs p && decide (p ≠ g)) := by
      intro p
      unfold mb
      have := hp.mem_iff (a := p)
      rw [List.mem_cons] at this
      by_cases e : p = g
      · subst e; simp [hgn]
      · simp [e] at this ⊢
        exact this.symm
    have f3 : mb (w :: bs) w = true := by unfold mb; simp
    have f4 : mb bs w = false := by unfold mb; simpa using hwn
    have f5 : ∀ p, p ≠ w → mb (w :: bs) p = mb bs p := by intro p hp'; unfold mb; simp [hp']
    -- the nearest
    obtain ⟨hbl, y, hy, hmin, _⟩ := hB
    have hy' : y = keyT false w g := by
      rw [List.getElem?_map, hg] at hy
      exact (Option.some.inj hy).symm
    have near : ∀ q ∈ hs, distOf false w g ≤ distOf false w q := by
      intro q hq
      obtain ⟨i, hi, he⟩ := List.getElem_of_mem hq
      have := hmin i (keyT false w q) hi (by rw [List.getElem?_map, List.getElem?_eq_getElem hi, he]; rfl)
      rw [hy'] at this
      exact this
    have dist : ∀ q : Nat, distOf false w q = if q ≤ w then (w : Int) - q else 16 + ((w : Int) - q) := fun q => by unfold distOf; rw [if_neg (by decide)]
    by_cases hgw : g ≤ w
    · have hq : qOf false w g = 0 := by unfold qOf; rw [if_neg (by decide), if_pos hgw]
      have h0 : ∀ p, g < p → p ≤ w → mb hs p = false := by
        intro p h1 h2
        unfold mb
        simp
        intro hm
        have := near p hm
        rw [dist, dist, if_pos hgw, if_pos h2] at this
        omega
      obtain ⟨r1, r2⟩ := z1 f1 f2 f3 f4 f5 hgw h0 16 0 hw16
      obtain ⟨r3, r4⟩ := z1 f1 f2 f3 f4 f5 hgw h0 16 (hx (mb hs) (mb (w :: bs))) hw16
      have e : hx (mb hs) (mb (w :: bs)) = hx (mb (hs.eraseIdx b)) (mb bs) := r1
      rw [hq, ih1, e]
      rw [e] at r4
      exact ⟨by omega, (ih2.cons g).trans r4.symm⟩
    · have hwg : w < g := by omega
      have hq : qOf false w g = -1 := by unfold qOf; rw [if_neg (by decide), if_neg hgw]
      have h0 : ∀ p, p ≤ w → mb hs p = false := by
        intro p h2
        unfold mb
        simp
        intro hm
        have := near p hm
        rw [dist, dist, if_neg hgw, if_pos h2] at this
        omega
      have h1 : ∀ p, g < p → p < 16 → mb hs p = false := by
        intro p h2 h3
        unfold mb
        simp
        intro hm
        have := near p hm
        rw [dist, dist, if_neg hgw, if_neg (by omega)] at this
        omega
      obtain ⟨r1, _⟩ := v1 f1 f2 f3 f4 f5 hwg h0 h1 16 0 hg16 (Nat.le_refl _)
      obtain ⟨_, r2⟩ := v1 f1 f2 f3 f4 f5 hwg h0 h1 16 (hx (mb (hs.eraseIdx b)) (mb bs)) hg16 (Nat.le_refl _)
      have r3 := v0 f1 f2 f3 f4 f5 h0 16 0 hw16
      have r4 := rk_max (mb hs) (mb (w :: bs)) 1
      rw [r1] at r4
      rw [← hx_rk] at r3 r4
      have c1' : cn (mb (w :: bs)) 16 = bs.length + 1 := by rw [cn_len bn bb]; rfl
      have c2' : cn (mb hs) 16 = hs.length := cn_len hn hb
      rw [c1', c2'] at r4
      have e : hx (mb hs) (mb (w :: bs)) = hx (mb (hs.eraseIdx b)) (mb bs) + 1 := by omega
      rw [hq, ih1, e]
      exact ⟨by omega, (ih2.cons g).trans r2.symm⟩
theorem pass_down {X Y gs hs' : List Nat} {t : Int} (h : PassR false X Y gs t hs') (xn : X.Nodup) (xb : ∀ p ∈ X, p < 16) (yn : Y.Nodup) (yb : ∀ p ∈ Y, p < 16) (le : Y.length ≤ X.length) :
    ∃ k : Nat, t = (k : Int) ∧ PL X Y gs (hs' ++ Y) k := by
  obtain ⟨e1, e2⟩ := h.tokens xn xb yn yb le
  have hp := h.perm
  have hnd := hp.nodup_iff.mp xn
  obtain ⟨n1, n2, n3⟩ := List.nodup_append.mp hnd
  refine ⟨_, e1, PL.of xn xb yn yb le e2 ?_ fun p => ?_⟩
  · refine List.nodup_append.mpr ⟨n2, yn, fun a ha b hb e => ?_⟩
    subst e
    have hax : a ∈ X := hp.mem_iff.mpr (List.mem_append_right _ ha)
    have : a ∈ gs := e2.mem_iff.mpr (tkn_both (by unfold mb; simpa using hax) (by unfold mb; simpa using hb) _ _ (xb a hax))
    exact n3 a this a ha rfl
  · rw [List.mem_append]
    have := hp.mem_iff (a := p)
    rw [List.mem_append] at this
    constructor
    · rintro (h1 | h1)
      · exact .inl ⟨this.mpr (.inr h1), fun h2 => n3 p h2 p h1 rfl⟩
      · exact .inr h1
    · rintro (⟨h1, h2⟩ | h1)
      · exact .inl ((this.mp h1).resolve_left h2)
      · exact .inr h1
noncomputable def rf (X : List Nat) : List Nat := X.map fun p => 15 - p
theorem rf_lt (X : List Nat) : ∀ p ∈ rf X, p < 16 := by
  intro p hp
  obtain ⟨q, _, rfl⟩ := List.mem_map.mp hp
  omega
theorem rf_rf {X : List Nat} (hb : ∀ p ∈ X, p < 16) : rf (rf X) = X := by
  unfold rf
  rw [List.map_map]
  exact (List.map_congr_left fun p hp => by have := hb p hp; show 15 - (15 - p) = id p; simp; omega).trans (List.map_id _)
theorem rf_mem {X : List Nat} (hb : ∀ p ∈ X, p < 16) {p : Nat} (hp : p < 16) : p ∈ rf X ↔ 15 - p ∈ X := by
  constructor
  · intro h
    obtain ⟨q, hq, rfl⟩ := List.mem_map.mp h
    have := hb q hq
    rw [show 15 - (15 - q) = q by omega]; exact hq
  · intro h
    exact List.mem_map.mpr ⟨_, h, by omega⟩
theorem rf_nd {X : List Nat} (hn : X.Nodup) (hb : ∀ p ∈ X, p < 16) : (rf X).Nodup := by
  unfold rf
  rw [List.Nodup, List.pairwise_map]
  exact hn.imp_of_mem fun {a b} ha hb' h => by
    have := hb a ha
    have := hb b hb'
    omega
theorem dist_rf {w q : Nat} (hw : w < 16) (hq : q < 16) : distOf true w q = distOf false (15 - w) (15 - q) := by
  simp only [distOf, if_true, Bool.false_eq_true, if_false]
  split <;> split <;> omega
theorem q_rf {w q : Nat} (hw : w < 16) (hq : q < 16) : qOf true w q = qOf false (15 - w) (15 - q) := by
  simp only [qOf, if_true, Bool.false_eq_true, if_false]
  split <;> split <;> omega
theorem PassR.flip {hs bs gs hs' : List Nat} {t : Int} (h : PassR true hs bs gs t hs') : (∀ p ∈ hs, p < 16) → (∀ p ∈ bs, p < 16) → PassR false (rf hs) (rf bs) (rf gs) t (rf hs') := by
  induction h with
  | nil => intro _ _; exact .nil
  | @cons hs w bs b g gs t hs' hB hg hr ih =>
    intro hb bb
    have hw := bb w (.head _)
    have hgm := hb g (List.mem_of_getElem? hg)
    have hp := perm_erase_at hg
    have e1 : (rf hs).eraseIdx b = rf (hs.eraseIdx b) := map_erase _ _ _
    rw [q_rf hw hgm]
    refine .cons (b := b) (g := 15 - g) ?_ ?_ ?_
    · obtain ⟨hbl, y, hy, h1, h2⟩ := hB
      have hy' : y = keyT true w g := by
        rw [List.getElem?_map, hg] at hy
        exact (Option.some.inj hy).symm
      have key : ∀ (i : Nat) (z : Int × Int × PySem.Str), ((rf hs).map (keyT false (15 - w)))[i]? = some z → ∃ z', (hs.map (keyT true w))[i]? = some z' ∧ z'.1 = z.1 := by
        intro i z hz
        unfold rf at hz
        rw [List.map_map, List.getElem?_map] at hz
        cases hq : hs[i]? with
        | none => rw [hq] at hz; cases hz
        | some q =>
          rw [hq] at hz
          refine ⟨keyT true w q, by rw [List.getElem?_map, hq]; rfl, ?_⟩
          have hz' := Option.some.inj hz
          rw [← hz']
          exact dist_rf hw (hb q (List.mem_of_getElem? hq))
      have hlen : (rf hs).length = hs.length := List.length_map ..
      refine ⟨by rw [hlen]; exact hbl, keyT false (15 - w) (15 - g), ?_, fun i z hi hz => ?_, fun i z hi hz => ?_⟩
      · unfold rf
        rw [List.map_map, List.getElem?_map, hg]
        rfl
      · obtain ⟨z', e, e'⟩ := key i z hz
        have := h1 i z' (by rw [← hlen]; exact hi) e
        rw [hy'] at this
        rw [← e']
        show distOf false (15 - w) (15 - g) ≤ z'.1
        rw [← dist_rf hw hgm]
        exact this
      · obtain ⟨z', e, e'⟩ := key i z hz
        have := h2 i z' hi e
        rw [hy'] at this
        rw [← e']
        show distOf false (15 - w) (15 - g) < z'.1
        rw [← dist_rf hw hgm]
        exact this
    · unfold rf; rw [List.getElem?_map, hg]; rfl
    · rw [e1]
      exact ih (fun p hp' => hb p (hp.mem_iff.mpr (.tail _ hp'))) (fun p hp' => bb p (.tail _ hp'))
theorem letsN_rev (x y : Bf) : letsN (fun p => x (15 - p)) (fun p => y (15 - p)) 16 = (letsN x y 16).reverse := rfl
theorem letsN_sw (x y : Bf) : (letsN x y 16).map sw = letsN y x 16 := rfl
theorem mb_rf {X : List Nat} (hb : ∀ p ∈ X, p < 16) : Eq16 (mb (rf X)) (fun p => mb X (15 - p)) := by
  intro n hn
  unfold mb
  exact decide_eq_decide.mpr (rf_mem hb (by omega))
theorem letsN_rf {X Y : List Nat} (hX : ∀ p ∈ X, p < 16) (hY : ∀ p ∈ Y, p < 16) : letsN (mb (rf X)) (mb (rf Y)) 16 = (letsN (mb X) (mb Y) 16).reverse := by
  rw [← letsN_rev]; exact lets_congr (mb_rf hX) (mb_rf hY)
theorem letsN_inj {x y x' y' : Bf} (h : letsN x y 16 = letsN x' y' 16) : Eq16 x x' ∧ Eq16 y y' := by
  have key : ∀ n < 16, (x (15 - n), y (15 - n)) = (x' (15 - n), y' (15 - n)) := by
    intro n hn
    have := congrArg (·[n]?) h
    unfold letsN at this
    simpa [hn] using this
  exact ⟨fun n hn => (Prod.mk.inj (key n hn)).1, fun n hn => (Prod.mk.inj (key n hn)).2⟩
theorem rf_perm_back {X Y : List Nat} (xn : X.Nodup) (yn : Y.Nodup) (hX : ∀ p ∈ X, p < 16) (hY : ∀ p ∈ Y, p < 16) (h : Eq16 (mb (rf X)) (mb (rf Y))) : X.Perm Y := by
  have h1 := eq16_mem (rf_lt X) (rf_lt Y) h
  have h2 : (rf X).Perm (rf Y) := perm_of (rf_nd xn hX) (rf_nd yn hY) h1
  have h3 := h2.map fun p => 15 - p
  have e1 := rf_rf hX
  have e2 := rf_rf hY
  unfold rf at e1 e2 h3
  rwa [e1, e2] at h3
theorem pass_up {X Y G R R' G' ys hs' : List Nat} {t : Nat} {tn : Int} (P : PL X Y G R t) (hR : R'.Perm R) (hG : G'.Perm G) (h : PassR true R' G' ys tn hs') : tn = (t : Int) ∧ ys.Perm Y ∧ (hs' ++ G').Perm X := by
  have P' := P.perm (.refl _) (.refl _) hG.symm hR.symm
  have hle : G'.length ≤ R'.length := by rw [P'.glen, P'.rlen]; exact P.le
  obtain ⟨k, e, D⟩ := pass_down (h.flip P'.rb P'.gb) (rf_nd P'.rn P'.rb) (rf_lt _) (rf_nd P'.gn P'.gb) (rf_lt _) (by unfold rf; rw [List.length_map, List.length_map]; exact hle)
  have hys := h.perm
  have hnd := hys.nodup_iff.mp P'.rn
  have yb : ∀ p ∈ ys, p < 16 := fun p hp => P'.rb p (hys.mem_iff.mpr (List.mem_append_left _ hp))
  have hb' : ∀ p ∈ hs' ++ G', p < 16 := by
    intro p hp
    rcases List.mem_append.mp hp with hp | hp
    · exact P'.rb p (hys.mem_iff.mpr (List.mem_append_right _ hp))
    · exact P'.gb p hp
  have hc : c2 (letsN (mb X) (mb Y) 16) ≤ c1 (letsN (mb X) (mb Y) 16) := by rw [(c_lets _ _ 16).1, (c_lets _ _ 16).2]; exact P.hc
  obtain ⟨b1, b2⟩ := back hc
  have ho : outs (letsN (mb X) (mb Y) 16) (hh (letsN (mb X) (mb Y) 16)) = letsN (mb G') (mb R') 16 := by
    have := P'.tr.outs
    rw [P'.mn] at this
    exact this
  rw [ho, letsN_sw, ← letsN_rf P'.rb P'.gb] at b1 b2
  have hk : k = t := by
    rw [D.mn, P.mn]
    exact b1
  have hD := D.tr.outs
  rw [hk, P.mn] at hD
  have hD' : letsN (mb (rf ys)) (mb (rf hs' ++ rf G')) 16 = ((letsN (mb X) (mb Y) 16).map sw).reverse := hD.symm.trans b2
  rw [letsN_sw, ← letsN_rf P.yb P.xb] at hD'
  obtain ⟨q1, q2⟩ := letsN_inj hD'
  have eapp : rf hs' ++ rf G' = rf (hs' ++ G') := by unfold rf; rw [List.map_append]
  rw [eapp] at q2
  have hrn := D.rn
  rw [eapp] at hrn
  have hn2 : (hs' ++ G').Nodup := by
    have := rf_nd hrn (rf_lt _)
    rwa [rf_rf hb'] at this
  refine ⟨by rw [e, hk], rf_perm_back (List.nodup_append.mp hnd).1 P.yn yb P.yb q1, rf_perm_back hn2 P.xn hb' P.xb q2⟩
noncomputable abbrev ci : Nat → Int := fun p => (p : Int)
theorem ci_mem {X : List Nat} {k : Nat} : (k : Int) ∈ X.map ci ↔ k ∈ X := by
  rw [List.mem_map]
  exact ⟨fun ⟨q, hq, e⟩ => by have : q = k := Int.ofNat.inj e
                              rwa [← this], fun h => ⟨k, h, rfl⟩⟩
structure MeetAt (X Y : List Nat) (k : Nat) (P Lt Gv : List Nat) : Prop where
  m : meetTo (X.map ci) (Y.map ci) k = (P.map ci, Lt.map ci, Gv.map ci)
  q : ∀ c, rk (mb X) (mb Y) k c = Lt.length + (c - P.length)
  g : ∀ c, (tkn (mb X) (mb Y) k c).Perm (Gv ++ P.drop (P.length - c))
  mem : ∀ p, p ∈ P ++ Gv ↔ p < k ∧ p ∈ X
  nd : (P ++ Gv).Nodup
theorem meet_at (X Y : List Nat) : ∀ k, ∃ P Lt Gv, MeetAt X Y k P Lt Gv
  | 0 => ⟨[], [], [], rfl, fun c => by simp [rk_zero], fun c => by rw [List.drop_nil]; exact List.Perm.refl _, fun p => by simp, List.nodup_nil⟩
  | k + 1 => by
    obtain ⟨P, Lt, Gv, h⟩ := meet_at X Y k
    have hs := meetTo_succ (X.map ci) (Y.map ci) k
    rw [h.m] at hs
    unfold meetStep at hs
    dsimp only at hs
    have hkn : ¬ k ∈ P ++ Gv := fun hk => by have := ((h.mem k).mp hk).1; omega
    have hkP : ¬ k ∈ P := fun hk => hkn (List.mem_append_left _ hk)
    have hkG : ¬ k ∈ Gv := fun hk => hkn (List.mem_append_right _ hk)
    obtain ⟨n1, n2, n3⟩ := List.nodup_append.mp h.nd
    by_cases hx : k ∈ X
    · have mx : mb X k = true := by unfold mb; simpa using hx
      rw [if_pos (ci_mem.mpr hx)] at hs
      by_cases hy : k ∈ Y
      · have my : mb Y k = true := by unfold mb; simpa using hy
        rw [if_pos (ci_mem.mpr hy), if_neg (by simp), List.dropLast_concat, List.getLastD_concat] at hs
        refine ⟨P, Lt, Gv ++ [k], by rw [hs, List.map_append]; rfl, fun c => ?_, fun c => ?_, fun p => ?_, ?_⟩
        · rw [rk_succ, mx, my, show nw true true c = c by simp [nw]]; exact h.q c
        · rw [tkn_succ, mx, my, show nw true true c = c by simp [nw], show tk true true c = true from rfl, if_pos rfl, List.append_assoc]
          exact ((h.g c).cons k).trans List.perm_middle.symm
        · rw [← List.append_assoc, List.mem_append, h.mem, List.mem_singleton]
          constructor
          · rintro (⟨h1, h2⟩ | rfl)
            · exact ⟨by omega, h2⟩
            · exact ⟨by omega, hx⟩
          · rintro ⟨h1, h2⟩
            by_cases e : p = k
            · exact .inr e
            · exact .inl ⟨by omega, h2⟩
        · rw [← List.append_assoc]
          refine List.nodup_append.mpr ⟨h.nd, by simp, fun a ha b hb e => ?_⟩
          rw [List.mem_singleton] at hb
          exact hkn (by rw [← hb, ← e]; exact ha)
      · have my : mb Y k = false := by unfold mb; simpa using hy
        rw [if_neg (fun z => hy (ci_mem.mp z))] at hs
        refine ⟨P ++ [k], Lt, Gv, by rw [hs, List.map_append]; rfl, fun c => ?_, fun c => ?_, fun p => ?_, ?_⟩
        · rw [rk_succ, mx, my, h.q, List.length_append]
          simp [nw]
          omega
        · rw [tkn_succ, mx, my]
          cases c with
          | zero =>
            rw [show nw true false 0 = 0 from rfl, show tk true false 0 = false from rfl, if_neg Bool.false_ne_true]
            have := h.g 0
            simp at this ⊢
            exact this
          | succ c =>
            rw [show nw true false (c + 1) = c from rfl, show tk true false (c + 1) = true by simp [tk], if_pos rfl, List.length_append, show P.length + [k].length - (c + 1) = P.length - c by simp, List.drop_append_of_le_length (by omega)]
            refine ((h.g c).cons k).trans ?_
            rw [← List.append_assoc]
            exact (List.perm_append_singleton k _).symm
        · have e : p ∈ P ++ [k] ++ Gv ↔ p ∈ P ++ Gv ∨ p = k := by simp only [List.mem_append, List.mem_singleton]; constructor <;> intro z <;> rcases z with (z | z) | z <;> simp [z]
          rw [e, h.mem]
          constructor
          · rintro (⟨h1, h2⟩ | rfl)
            · exact ⟨by omega, h2⟩
            · exact ⟨by omega, hx⟩
          · rintro ⟨h1, h2⟩
            by_cases e : p = k
            · exact .inr e
            · exact .inl ⟨by omega, h2⟩
        · have : (P ++ [k] ++ Gv).Perm (k :: (P ++ Gv)) := by
            rw [List.append_assoc]
            exact List.perm_middle
          exact this.nodup_iff.mpr (List.nodup_cons.mpr ⟨hkn, h.nd⟩)
    · have mx : mb X k = false := by unfold mb; simpa using hx
      have e3 : ∀ c, tk false (mb Y k) c = false := fun c => rfl
      have hmem : ∀ p, p ∈ P ++ Gv ↔ p < k + 1 ∧ p ∈ X := fun p => (h.mem p).trans ⟨fun ⟨h1, h2⟩ => ⟨by omega, h2⟩, fun ⟨h1, h2⟩ => ⟨by
        by_cases e : p = k
        · subst e; exact absurd h2 hx
        · omega, h2⟩⟩
      rw [if_neg (fun z => hx (ci_mem.mp z))] at hs
      by_cases hy : k ∈ Y
      · have my : mb Y k = true := by unfold mb; simpa using hy
        rw [if_pos (ci_mem.mpr hy)] at hs
        rcases List.eq_nil_or_concat P with rfl | ⟨Q, q, rfl⟩
        · rw [if_pos (by rfl)] at hs
          refine ⟨[], Lt ++ [k], Gv, by rw [hs, List.map_append]; rfl, fun c => ?_, fun c => ?_, hmem, h.nd⟩
          · rw [rk_succ, mx, my, h.q]; simp [nw] <;> omega
          · rw [tkn_succ, mx, e3, if_neg Bool.false_ne_true, my]
            have := h.g (nw false true c)
            simpa using this
        · rw [List.concat_eq_append] at *
          rw [if_neg (by simp), List.map_append] at hs
          simp only [List.map_cons, List.map_nil, List.dropLast_concat, List.getLastD_concat] at hs
          refine ⟨Q, Lt, Gv ++ [q], by rw [hs, List.map_append]; rfl, fun c => ?_, fun c => ?_, fun p => ?_, ?_⟩
          · rw [rk_succ, mx, my, h.q, List.length_append]; simp [nw] <;> omega
          · rw [tkn_succ, mx, e3, if_neg Bool.false_ne_true, my, show nw false true c = c + 1 by simp [nw]]
            have := h.g (c + 1)
            rw [List.length_append, show Q.length + [q].length - (c + 1) = Q.length - c by simp, List.drop_append_of_le_length (by omega)] at this
            refine this.trans ?_
            rw [← List.append_assoc, List.append_assoc Gv [q]]
            refine (List.perm_append_comm).trans ?_
            rw [List.singleton_append]
            exact List.perm_middle.symm
          · rw [← hmem p]
            simp only [List.mem_append, List.mem_singleton]
            constructor
            · rintro (z | z | z)
              · exact .inl (.inl z)
              · exact .inr z
              · exact .inl (.inr z)
            · rintro ((z | z) | z)
              · exact .inl z
              · exact .inr (.inr z)
              · exact .inr (.inl z)
          · have e : (Q ++ [q] ++ Gv).Perm (Q ++ (Gv ++ [q])) := by
              rw [List.append_assoc]
              exact List.Perm.append_left _ List.perm_append_comm
            exact e.nodup_iff.mp h.nd
      · have my : mb Y k = false := by unfold mb; simpa using hy
        rw [if_neg (fun z => hy (ci_mem.mp z))] at hs
        refine ⟨P, Lt, Gv, hs, fun c => ?_, fun c => ?_, hmem, h.nd⟩
        · rw [rk_succ, mx, my, show nw false false c = c by simp [nw]]; exact h.q c
        · rw [tkn_succ, mx, e3, if_neg Bool.false_ne_true, my, show nw false false c = c by simp [nw]]; exact h.g c
theorem ints_nat {gs : List Int} {G : List Nat} (h : gs.Perm (G.map ci)) : ∃ G' : List Nat, gs = G'.map ci ∧ G'.Perm G := by
  refine ⟨gs.map Int.toNat, ?_, ?_⟩
  · rw [List.map_map]
    refine ((List.map_congr_left fun z hz => ?_).trans (List.map_id _)).symm
    obtain ⟨q, _, rfl⟩ := List.mem_map.mp (h.mem_iff.mp hz)
    rfl
  · have := h.map Int.toNat
    rw [List.map_map] at this
    have e : (Int.toNat ∘ ci) = id := by funext p; rfl
    rwa [e, List.map_id] at this
theorem meet_pl {X Y : List Nat} (xn : X.Nodup) (xb : ∀ p ∈ X, p < 16) (yn : Y.Nodup) (yb : ∀ p ∈ Y, p < 16) (le : Y.length ≤ X.length) :
    (meetTo (X.map ci) (Y.map ci) 16).2.1.length ≤ (meetTo (X.map ci) (Y.map ci) 16).1.length ∧
    ∀ gs qs : List Int, gs.Perm ((meetTo (X.map ci) (Y.map ci) 16).2.2 ++ (meetTo (X.map ci) (Y.map ci) 16).1.drop ((meetTo (X.map ci) (Y.map ci) 16).1.length - (meetTo (X.map ci) (Y.map ci) 16).2.1.length)) →
      qs.Perm ((meetTo (X.map ci) (Y.map ci) 16).1.take ((meetTo (X.map ci) (Y.map ci) 16).1.length - (meetTo (X.map ci) (Y.map ci) 16).2.1.length) ++ Y.map ci) →
      ∃ G R : List Nat, gs = G.map ci ∧ qs = R.map ci ∧ PL X Y G R (meetTo (X.map ci) (Y.map ci) 16).2.1.length := by
  obtain ⟨P, Lt, Gv, h⟩ := meet_at X Y 16
  rw [h.m]
  simp only [List.length_map]
  have hH : hx (mb X) (mb Y) = Lt.length := by rw [hx_rk, h.q]; omega
  -- how many
  have c0 : Lt.length + Gv.length = Y.length := by
    have e := run_count (lets (mb X) (mb Y) 16) 0
    rw [outs_lets, c1_filter] at e
    have e1 : ((List.range 16).filter fun p => decide (p ∈ tkn (mb X) (mb Y) 16 0)).length = (tkn (mb X) (mb Y) 16 0).length :=
      (perm_filter (tkn_nd _ _ _ _) fun p hp => (tkn_lt hp).1).length_eq.symm
    have e2 := (h.g 0).length_eq
    have e3 : run (lets (mb X) (mb Y) 16) 0 = Lt.length + (0 - P.length) := h.q 0
    have e4 : c2 (lets (mb X) (mb Y) 16) = Y.length := by rw [lets16, (c_lets _ _ 16).2, cn_len yn yb]
    simp at e2
    rw [e1, e2, e3, e4] at e
    omega
  have hPG : (P ++ Gv).Perm X := perm_of h.nd xn fun p => (h.mem p).trans ⟨fun z => z.2, fun z => ⟨xb p z, z⟩⟩
  have c1' := hPG.length_eq
  rw [List.length_append] at c1'
  refine ⟨by omega, fun gs qs hg hq => ?_⟩
  rw [← List.map_drop, ← List.map_append] at hg
  rw [← List.map_take, ← List.map_append] at hq
  obtain ⟨G, eg, pg⟩ := ints_nat hg
  obtain ⟨R, er, pr⟩ := ints_nat hq
  refine ⟨G, R, eg, er, ?_⟩
  have hg16 := h.g Lt.length
  rw [← hH] at hg16 ⊢
  obtain ⟨n1, n2, n3⟩ := List.nodup_append.mp h.nd
  have hsp := List.take_append_drop (P.length - Lt.length) P
  have n1' := n1
  rw [← hsp] at n1'
  obtain ⟨m1, m2, m3⟩ := List.nodup_append.mp n1'
  have hGm : ∀ p, p ∈ G ↔ p ∈ Gv ∨ p ∈ P.drop (P.length - Lt.length) := fun p => by rw [pg.mem_iff, List.mem_append]
  refine PL.of xn xb yn yb le (pg.trans (by rw [hH] at hg16 ⊢; exact hg16.symm)) ?_ fun p => ?_
  · refine pr.nodup_iff.mpr (List.nodup_append.mpr ⟨m1, yn, fun a ha b hb e => ?_⟩)
    subst e
    have haP : a ∈ P := List.mem_of_mem_take ha
    have hax : a ∈ X := hPG.mem_iff.mp (List.mem_append_left _ haP)
    have ht := tkn_both (x := mb X) (y := mb Y) (by unfold mb; simpa using hax) (by unfold mb; simpa using hb) 16 (hx (mb X) (mb Y)) (xb a hax)
    have := hg16.mem_iff.mp ht
    rw [hH, List.mem_append] at this
    rcases this with z | z
    · exact n3 a haP a z rfl
    · exact m3 a ha a z rfl
  · rw [pr.mem_iff, List.mem_append, hGm]
    have hX : p ∈ X ↔ (p ∈ P.take (P.length - Lt.length) ∨ p ∈ P.drop (P.length - Lt.length)) ∨ p ∈ Gv := by
      rw [← hPG.mem_iff, List.mem_append]
      constructor
      · rintro (z | z)
        · rw [← hsp] at z; exact .inl (List.mem_append.mp z)
        · exact .inr z
      · rintro (z | z)
        · exact .inl (by rw [← hsp]; exact List.mem_append.mpr z)
        · exact .inr z
    constructor
    · rintro (z | z)
      · refine .inl ⟨hX.mpr (.inl (.inl z)), ?_⟩
        rintro (w | w)
        · exact n3 p (List.mem_of_mem_take z) p w rfl
        · exact m3 p z p w rfl
      · exact .inr z
    · rintro (⟨z, w⟩ | z)
      · rcases hX.mp z with (z | z) | z
        · exact .inl z
        · exact absurd (.inr z) w
        · exact absurd (.inl z) w
      · exact .inr z
theorem eq_perm {X Y : List Nat} (xn : X.Nodup) (xb : ∀ p ∈ X, p < 16) (yn : Y.Nodup) (yb : ∀ p ∈ Y, p < 16) (h : Eq16 (mb X) (mb Y)) : X.Perm Y := perm_of xn yn (eq16_mem xb yb h)
theorem law_math {A B C D g2 y1 g3 q b2 z1 b3 z2 m a L0 R0 bx0 R1 ot0 R2 bx L1 ot L2 : List Nat} {t1 t2 s1 s2 ta early some more less least : Nat}
    (P1 : PL B C g2 y1 t1) (P2 : PL y1 D g3 q t2) (P3 : PL A g2 b2 z1 s1) (P4 : PL z1 g3 b3 z2 s2) (P5 : PL z2 q m a ta)
    (M1 : PL A B L0 R0 early) (M2 : PL R0 C bx0 R1 some) (M3 : PL R1 D ot0 R2 more) (M4 : PL L0 bx0 bx L1 less) (M5 : PL L1 ot0 ot L2 least) :
    b2.Perm bx ∧ b3.Perm ot ∧ m.Perm L2 ∧ a.Perm R2 ∧ t1 + s1 = some + less ∧ t2 + s2 = more + least ∧ t1 + t2 + early = ta + less + least := by
  have hzy : cn (mb y1) 16 ≤ cn (mb z1) 16 := by
    rw [cn_len P1.rn P1.rb, cn_len P3.rn P3.rb, P1.rlen, P3.rlen]; exact M1.le
  have hf : st (mb z1) (mb y1) (hx (mb z1) (mb y1)) 16 = hx (mb z1) (mb y1) := hh_fix (by rw [(c_lets _ _ 16).1, (c_lets _ _ 16).2]; exact hzy)
  obtain ⟨e1, e2, e3, e4, e5⟩ := ybe M1.hc P1.hc M1.tr M1.mn M2.tr M2.mn M4.tr M4.mn P1.tr P1.mn P3.tr P3.mn (Tr.mk' hf) rfl
  have T1 : Tr (mb z1) (mb y1) (mb L1) (mb R1) (hx (mb z1) (mb y1)) := (Tr.mk' hf).congr (fun ι ι => rfl) (fun ι ι => rfl) e2 e3
  obtain ⟨f1, f2, f3, f4, f5⟩ := ybe hzy P2.hc T1 rfl M3.tr M3.mn M5.tr M5.mn P2.tr P2.mn P4.tr P4.mn P5.tr P5.mn
  refine ⟨eq_perm P3.gn P3.gb M4.gn M4.gb e1, eq_perm P4.gn P4.gb M5.gn M5.gb f1, eq_perm P5.gn P5.gb M5.rn M5.rb f2, eq_perm P5.rn P5.rb M3.rn M3.rb f3, by omega, by omega, by omega⟩
theorem sorted_eq : ∀ {xs ys : List Int}, xs.Perm ys → xs.Pairwise (· ≤ ·) → ys.Pairwise (· ≤ ·) → xs = ys
  | [], ys, h, _, _ => (List.nil_perm.mp h).symm
  | x :: xs, [], h, _, _ => absurd h.length_eq (by simp)
  | x :: xs, y :: ys, h, h1, h2 => by
    obtain ⟨a1, a2⟩ := List.pairwise_cons.mp h1
    obtain ⟨b1, b2⟩ := List.pairwise_cons.mp h2
    have e : x = y := by
      have hx : x ∈ y :: ys := h.mem_iff.mp (.head _)
      have hy : y ∈ x :: xs := h.mem_iff.mpr (.head _)
      rcases List.mem_cons.mp hx with e | hx
      · exact e
      · rcases List.mem_cons.mp hy with e | hy
        · exact e.symm
        · exact Int.le_antisymm (a1 y hy) (b1 x hx)
    subst e
    rw [sorted_eq (List.Perm.cons_inv h) a2 b2]
theorem lt_nodup {X : List Nat} (h : X.Pairwise (· < ·)) : X.Nodup := h.imp fun hab => Nat.ne_of_lt hab
section
variable {L L' : Led}
noncomputable def LsN (L : Led) (a : Addr) (xs : List Nat) : Prop := ∃ vs, (a, It.ls vs) ∈ L ∧ IntsAre vs (xs.map ci)
noncomputable def LsW (L : Led) (a : Addr) (xs : List Str) : Prop := ∃ vs, (a, It.ls vs) ∈ L ∧ StrsAre vs xs
theorem LsN.mono {a : Addr} {xs : List Nat} (s : Sub L L') (h : LsN L a xs) : LsN L' a xs := h.elim fun vs h => ⟨vs, s _ h.1, h.2⟩
theorem LsW.mono {a : Addr} {xs : List Str} (s : Sub L L') (h : LsW L a xs) : LsW L' a xs := h.elim fun vs h => ⟨vs, s _ h.1, h.2⟩
end
section
variable {B : Bg} {n : Nat} {L L' : Led} {env : Env} {ks : List (Str × NameKind)} {F : Addr} {cl : List (Str × Addr)} {f : Str → Option Value}
theorem c_meet2 (O : Our B) {l r : Addr} {X Y : List Nat} {Q : Value → Led → Prop} (hl : LsN L l X) (hr : LsN L r Y) (xn : X.Nodup) (xb : ∀ p ∈ X, p < 16) (yn : Y.Nodup) (yb : ∀ p ∈ Y, p < 16) (le : Y.length ≤ X.length) (len : Y.length ≤ 40)
    (h : ∀ t g q k e G R gv qv, PL X Y G R e → (G.map ci).Pairwise (· ≤ ·) → (R.map ci).Pairwise (· ≤ ·) → IntsAre gv (G.map ci) → IntsAre qv (R.map ci) → Q (.ref t) ((t, tup [.ref g, .ref q, .int ((e : Nat) : Int) k]) :: (g, .ls gv) :: (q, .ls qv) :: L)) : T B (n + 4) (call (.ref 190) [.ref l, .ref r] []) L Q := by
  have mp := meet_pl xn xb yn yb le
  refine hl.elim fun va ha => hr.elim fun vb hb => ?_
  refine c_meet O ha.1 hb.1 ha.2 hb.2 (by rw [List.length_map]; exact len) mp.1 fun t g q gv gs qv qs k ig iq sg sq pg pq => ?_
  refine (mp.2 _ _ pg pq).elim fun G hG => hG.elim fun R hR => ?_
  exact h t g q k _ G R _ _ hR.2.2 (hR.1 ▸ sg) (hR.2.1 ▸ sq) (hR.1 ▸ ig) (hR.2.1 ▸ iq)
theorem s_meet (O : Our B) {x y z : Str} {ea eb : Expr} {l r : Addr} {X Y : List Nat} {rest : List Stmt} {k0 : Nat} {q1 q2 q3 q4 q5 q6 q7 : Pos} {Q : Flow → Led → Prop} (E : EnvIs env ks F cl) (hg : (("_law_meet" : Str), NameKind.globalImplicit) ∈ ks) (hx : (x, NameKind.local) ∈ ks) (hy : (y, NameKind.local) ∈ ks) (hz : (z, NameKind.local) ∈ ks)
    (ha : Ev B (n + 5) env ((F, It.nf f) :: L) ea (.ref l)) (hb : Ev B (n + 5) env ((F, It.nf f) :: L) eb (.ref r)) (hl : LsN L l X) (hr : LsN L r Y) (xn : X.Nodup) (xb : ∀ p ∈ X, p < 16) (yn : Y.Nodup) (yb : ∀ p ∈ Y, p < 16) (le : Y.length ≤ X.length) (len : Y.length ≤ 40)
    (h : ∀ g q k e G R a1 a2 a3, PL X Y G R e → (G.map ci).Pairwise (· ≤ ·) → (R.map ci).Pairwise (· ≤ ·) → LsN (a1 :: a2 :: a3 :: L) g G → LsN (a1 :: a2 :: a3 :: L) q R → T B (n + 5) (execs rest env) ((F, It.nf (up (up (up f x (.ref g)) y (.ref q)) z (.int ((e : Nat) : Int) k))) :: a1 :: a2 :: a3 :: L) Q) :
    T B (n + 5) (execs (.Assign [.Tuple [.Name x q1, .Name y q2, .Name z q3] k0 q4] (.Call (.Name "_law_meet" q5) [ea, eb] [] q6) q7 :: rest) env) ((F, It.nf f) :: L) Q := by
  repeat nest_cls
  refine T_Call1 (ha.1 _) ?_
  repeat nest_cls
  refine T_items_cons (ha.1 _) (ha.2 _ ?_)
  repeat nest_cls
  refine T_items_cons (hb.1 _) (hb.2 _ ?_)
  repeat nest_cls
  refine c_meet2 O (hl.mono fun p hp => .tail _ hp) (hr.mono fun p hp => .tail _ hp) xn xb yn yb le len fun t g q k e G R gv qv P sg sq ig iq => ?_
  repeat nest_cls
  exact h _ _ _ _ _ _ _ _ _ P sg sq ⟨_, by tb_rel, ig⟩ ⟨_, by tb_rel, iq⟩
end
inductive Are {α : Type} (V : α → Value → Prop) : List α → List Value → Prop
  | nil : Are V [] []
  | cons {a : α} {v : Value} {l : List α} {vs : List Value} : V a v → Are V l vs → Are V (a :: l) (v :: vs)
section
variable {α : Type} {V W : α → Value → Prop} {l : List α} {vs : List Value}
theorem Are.len (h : Are V l vs) : vs.length = l.length := by
  induction h with
  | nil => rfl
  | cons _ _ ih => exact congrArg (· + 1) ih
theorem Are.mono (f : ∀ a v, V a v → W a v) (h : Are V l vs) : Are W l vs := by
  induction h with
  | nil => exact .nil
  | cons h _ ih => exact .cons (f _ _ h) ih
theorem Are.snoc {a : α} {v : Value} (h : Are V l vs) (k : V a v) : Are V (l ++ [a]) (vs ++ [v]) := by
  induction h with
  | nil => exact .cons k .nil
  | cons h _ ih => exact .cons h ih
theorem Are.ints {l : List Nat} (h : Are (fun a v => ∃ t, v = .int ((a : Nat) : Int) t) l vs) : IntsAre vs (l.map ci) := by
  induction h with
  | nil => exact .nil
  | cons h _ ih => exact h.elim fun t e => e ▸ .cons _ t ih
theorem Are.of_strs {l : List α} {g : α → Str} (h : StrsAre vs (l.map g)) : Are (fun a v => ∃ t, v = .str (g a) t) l vs := by
  induction l generalizing vs with
  | nil => cases h; exact .nil
  | cons a l ih => cases h with | cons _ t h => exact .cons ⟨t, rfl⟩ (ih h)
end
structure Itr (B : Bg) (n : Nat) (src : Addr × It) (vs : List Value) (X : Nat → It) : Prop where
  nx : ∀ {i : Nat} {v : Value} {it : Addr} {L : Led} {Q : Option Value → Led → Prop}, src ∈ L → vs[i]? = some v → Q (some v) ((it, X (i + 1)) :: L) → T B n (pyNext (.ref it)) ((it, X i) :: L) Q
  nd : ∀ {i : Nat} {it : Addr} {L : Led} {Q : Option Value → Led → Prop}, src ∈ L → vs[i]? = none → Q none L → T B n (pyNext (.ref it)) ((it, X i) :: L) Q
  self : ∀ {i : Nat} {it : Addr} {L : Led}, (it, X i) ∈ L → SelfIter B n (.ref it) L
section
variable {B : Bg} {n : Nat} {L R : Led} {cenv : Env} {pos : Pos} {elt target iter : Expr} {scope : Scope} {l it acc C : Addr} {vs : List Value} {xn : Str} {X : Nat → It} {src : Addr × It}
theorem itr_ls : Itr B (n + 1) (l, .ls vs) vs (lsIter l) := ⟨fun hm hv h => T_next_ls .head hm hv h, fun hm hv h => T_end_ls .head hm hv h, self_ls⟩
theorem itr_tup : Itr B (n + 1) (l, tup vs) vs (tpIter l) := ⟨fun hm hv h => T_next_tup .head hm hv h, fun hm hv h => T_end_tup .head hm hv h, self_tup⟩
theorem Tc_comp_i {Q : Flow → Led → Prop} (I : Itr B (n + 1) src vs X) (Inv : List Value → List Value → Led → Prop) (hm : ∀ r av R, Inv r av R → src ∈ R) (hz : ∀ r av R, Inv r av R → av.length ≤ 1000) (ht : ∀ it v, letOwnedTupleGo target it v = pure ())
    (turn : ∀ (ia : Addr) (X : It) (x : Value) (rest : List Value) (o : Option Value) (av : List Value) (R : Led), Inv (x :: rest) av R → T B (n + 1) (assign target cenv x) ((ia, X) :: (C, .ns [(xn, o)]) :: (acc, .ls av) :: R) fun ι L₁ => T B (n + 1) (eval elt cenv) L₁ fun y L₂ => ∃ o' R', Pick ((ia, X) :: (C, .ns [(xn, o')]) :: (acc, .ls av) :: R') L₂ ∧ Inv rest (av ++ [y]) R')
    (fin : ∀ o av R, Inv [] av R → Q .next ((C, .ns [(xn, o)]) :: (acc, .ls av) :: R)) (h : Inv vs [] R) :
    Tc B (n + 1) (.compLoop (.ListComp elt [⟨target, iter, [], 0⟩] scope pos) 0 (.ref it) (.ref acc) cenv) ((C, .ns [(xn, none)]) :: (acc, .ls []) :: (it, X 0) :: R) Q := by
  refine Tc_pick (L' := (it, X 0) :: (C, .ns [(xn, none)]) :: (acc, .ls []) :: R) (Pick.cons (.tail (.tail .head)) .refl) ?_
  refine Tc_comp (fun k L => ∃ i o av R, L = (it, X i) :: (C, .ns [(xn, o)]) :: (acc, .ls av) :: R ∧ k = (vs.drop i).length ∧ Inv (vs.drop i) av R) (fun v => ht _ v) ?_ vs.length ⟨0, none, [], R, rfl, rfl, h⟩
  rintro k L' ⟨i, o, av, R, rfl, hk, hI⟩
  cases hd : vs.drop i with
  | nil => exact I.nd (.tail _ (.tail _ (hm _ _ _ hI))) (List.getElem?_eq_none (List.drop_eq_nil_iff.mp hd)) (fin _ _ _ (hd ▸ hI))
  | cons y r =>
    have hx : vs[i]? = some y := by
      have : (vs.drop i)[0]? = some y := by rw [hd]; rfl
      simpa using this
    have e : r = vs.drop (i + 1) := by rw [← List.drop_drop, hd]; rfl
    refine I.nx (.tail _ (.tail _ (hm _ _ _ hI))) hx ?_
    refine T_mono (turn it (X (i + 1)) y r o av R (hd ▸ hI)) fun ι L₁ h1 => T_mono h1 fun z L₂ h => h.elim fun o' h => h.elim fun R' h => ?_
    refine T_pick h.1 (T_append (.tail (.tail .head)) (szk (hz _ _ _ hI)) ?_)
    exact ⟨r.length, _, by rw [hk, hd]; exact Nat.lt_succ_self _, Pick.cons (.tail .head) (Pick.cons (.tail .head) .refl), i + 1, o', _, R', rfl, by rw [e], e ▸ h.2⟩
end
section
variable {B : Bg} {n : Nat} {L M : Led} {env : Env} {ks ks' : List (Str × NameKind)} {F : Addr} {cl cl' : List (Str × Addr)} {pos pq : Pos} {elt iter : Expr} {scope : Scope} {l : Addr} {vs : List Value} {Q : Value → Led → Prop} {xn : Str}
theorem Tc_map {α : Type} {xs : List α} {V : α → Value → Prop} {W : Led → α → Value → Prop} {C it acc : Addr} {cenv : Env} {X : Nat → It} {src : Addr × It} {Q : Flow → Led → Prop} (E' : EnvIs cenv ks' C cl') (hxn : (xn, NameKind.local) ∈ ks') (I : Itr B (n + 1) src vs X) (hl : src ∈ L) (hv : Are V xs vs) (hz : xs.length ≤ 1000) (hW : ∀ {G G' : Led} {a : α} {y : Value}, Sub G G' → W G a y → W G' a y)
    (turn : ∀ (a : α) (x : Value) (G : Led), a ∈ xs → V a x → (C, It.ns [(xn, some x)]) ∈ G → Sub L G → T B (n + 1) (eval elt cenv) G fun y L' => ∃ e, L' = e ++ G ∧ W (e ++ M) a y)
    (h : ∀ o ys e, Are (W (e ++ M)) xs ys → Q .next ((C, .ns [(xn, o)]) :: (acc, .ls ys) :: (e ++ L))) :
    Tc B (n + 1) (.compLoop (.ListComp elt [⟨.Name xn pq, iter, [], 0⟩] scope pos) 0 (.ref it) (.ref acc) cenv) ((C, .ns [(xn, none)]) :: (acc, .ls []) :: (it, X 0) :: L) Q := by
  refine Tc_comp_i I (fun r av R => ∃ (dn td : List α) (e : Led), xs = dn ++ td ∧ Are V td r ∧ R = e ++ L ∧ Are (W (e ++ M)) dn av) ?hm ?hz (fun ι ι => rfl) ?turn ?fin ⟨[], xs, [], rfl, hv, rfl, .nil⟩
  case hm => rintro r av _ ⟨dn, td, e, _, _, rfl, _⟩; exact List.mem_append_right _ hl
  case hz =>
    rintro r av R ⟨dn, td, e, h1, _, _, h2⟩
    rw [h2.len]
    rw [h1, List.length_append] at hz
    omega
  case turn =>
    rintro ia X' x rest o av _ ⟨dn, td, e, h1, h2, rfl, h3⟩
    cases h2 with | @cons a _ td _ hx h2 =>
    refine T_assignName (T_st_local E' hxn (.tail .head) .head ?_)
    refine T_mono (turn a x _ (by rw [h1]; exact List.mem_append_right _ (.head _)) hx (.head _) fun p hp => .tail _ (.tail _ (.tail _ (List.mem_append_right _ hp)))) fun y L2 h => ?_
    obtain ⟨e', rfl, hy⟩ := h
    refine ⟨some x, (e' ++ e) ++ L, ?_, dn ++ [a], td, e' ++ e, by rw [h1, List.append_assoc]; rfl, h2, rfl, ?_⟩
    · have r1 : Rem (ia, X') (e' ++ (C, It.ns [(xn, some x)]) :: (ia, X') :: (acc, .ls av) :: (e ++ L)) (e' ++ (C, It.ns [(xn, some x)]) :: (acc, .ls av) :: (e ++ L)) := by
        have := @rem_app (ia, X') (e' ++ [(C, It.ns [(xn, some x)])]) ((acc, .ls av) :: (e ++ L))
        rwa [List.append_assoc, List.append_assoc] at this
      refine .cons r1 (.cons rem_app (.cons rem_app ?_))
      rw [List.append_assoc]
      exact .refl
    · refine (h3.mono fun b w hb => hW (fun p hp => ?_) hb).snoc (hW (fun p hp => ?_) hy)
      · rw [List.append_assoc]; exact List.mem_append_right _ hp
      · rw [List.append_assoc]
        exact (List.mem_append.mp hp).elim (List.mem_append_left _) fun q => List.mem_append_right _ (List.mem_append_right _ q)
  case fin =>
    rintro o av _ ⟨dn, td, e, h1, h2, rfl, h3⟩
    cases h2
    rw [List.append_nil] at h1
    subst h1
    exact h _ _ _ h3
theorem T_map {α : Type} {xs : List α} {V : α → Value → Prop} {W : Led → α → Value → Prop} (E : EnvIs env ks F cl) (hcl : closL scope.names cl [] = some cl') (hnd' : (cl'.map (·.1)).Nodup) (hkind : scope.kind = .function) (hnames : (scope.names.all fun x => x.2 != .local || scope.names.lookup x.1 == some .local) = true) (hcell : (scope.names.all fun x => x.2 != .cell) = true)
    (hf : (scope.names.all fun x => x.2 != .free || (ks.lookup x.1).isSome) = true)
    (hks : (ks'.all fun p => (relabL ks scope.names).lookup p.1 == some p.2 && !(p.1 == ("__debug__" : Str)) && !(p.1 == ("__classdict__" : Str))) = true)
    (hxn : (xn, NameKind.local) ∈ ks') (hs : ∀ x, foldedSetIterable iter env x = pure x)
    (hi : Ev B (n + 1) env L iter (.ref l)) (hl : (l, It.ls vs) ∈ L) (hv : Are V xs vs) (hz : xs.length ≤ 1000) (hW : ∀ {G G' : Led} {a : α} {y : Value}, Sub G G' → W G a y → W G' a y)
    (turn : ∀ (a : α) (x : Value) (C : Addr) (cenv : Env) (G : Led), a ∈ xs → V a x → EnvIs cenv ks' C cl' → (C, It.ns [(xn, some x)]) ∈ G → Sub L G → T B (n + 1) (eval elt cenv) G fun y L' => ∃ e, L' = e ++ G ∧ W (e ++ M) a y)
    (h : ∀ a ys e, Are (W (e ++ M)) xs ys → Q (.ref a) ((a, .ls ys) :: (e ++ L))) : T B (n + 1) (eval (.ListComp elt [⟨.Name xn pq, iter, [], 0⟩] scope pos) env) L Q := by
  exact T_ListComp ks' cl' [(xn, none)] E hcl hnd' hkind hnames hcell hf hks rfl (of_decide_eq_true rfl) hs (hi.2 _ (T_iter_ls hl fun it acc C cenv E' => ⟨self_ls (.tail _ (.tail _ (.head _))), Tc_map (W := W) (M := M) E' hxn itr_ls hl hv hz hW (fun a x G h1 h2 h3 h4 => turn a x C cenv G h1 h2 E' h3 h4) fun ι ι ι h3 => ⟨_, _, .head, List.cons_ne_nil _ _, h _ _ _ h3⟩⟩))
end
section
variable {B : Bg} {n : Nat} {L L' L₁ : Led} {Q : Value → Led → Prop} {a b : Int} {t u : Tok}
noncomputable def HuesOk (k : Int) (hs : List Int) : Prop := (hs.length : Int) = k ∧ hs.Pairwise (· < ·) ∧ ∀ x ∈ hs, 0 ≤ x ∧ x < 16
theorem hues_ok {k : Int} {ts fs ns : List Int} (hp : (ts ++ fs).Perm (rangeKs 0 16)) (hl : (ts.length : Int) = k) (a2 : ns.Perm ts) (a3 : ns.Pairwise (· ≤ ·)) : HuesOk k ns := by
  have nd : (ts ++ fs).Nodup := hp.nodup_iff.mpr (by decide)
  have nd2 : ns.Nodup := a2.nodup_iff.mpr (List.nodup_append.mp nd).1
  refine ⟨by rw [a2.length_eq]; exact hl, ?_, fun x hx => ?_⟩
  · have := List.Pairwise.and a3 nd2
    exact this.imp fun ⟨h1, h2⟩ => by omega
  · have : x ∈ rangeKs 0 16 := hp.mem_iff.mp (List.mem_append.mpr (.inl (a2.mem_iff.mp hx)))
    unfold rangeKs at this
    obtain ⟨j, hj, rfl⟩ := List.mem_map.mp this
    have := List.mem_range.mp hj
    omega
end
noncomputable abbrev huesKs : List (Str × NameKind) := [("number", .local), ("size", .local), ("free", .local), ("taken", .local), ("_", .local), ("list", .globalImplicit), ("range", .globalImplicit), ("len", .globalImplicit), ("sorted", .globalImplicit)]
noncomputable def huesT : List Stmt := fnB (stAt 22)
noncomputable def huesW : List Stmt := forB (nB huesT 1)
section
variable {B : Bg} {n : Nat} {L : Led} {env : Env} {F fl tl : Addr} {f : Str → Option Value} {fv tv : List Value} {fs ts : List Int} {num : Int} {t u : Tok} {Q : Flow → Led → Prop}
set_option maxHeartbeats 4000000
theorem mod_ok {num : Int} {z : Nat} (h : 0 ≤ num) : num.fmod (z : Int) = ((num.toNat % z : Nat) : Int) := by
  rw [Int.fmod_eq_emod_of_nonneg _ (Int.natCast_nonneg _), Int.natCast_emod, Int.toNat_of_nonneg h]
theorem h_0 (O : Our B) (E : EnvIs env huesKs F []) (e1 : f "number" = some (.int num t)) (e2 : f "free" = some (.ref fl)) (e3 : f "taken" = some (.ref tl)) (h0 : 0 ≤ num) (hf : IntsAre fv fs) (hz : 0 < fs.length) (hz2 : fs.length ≤ 16) (hz3 : tv.length ≤ 16)
    (h : ∀ i (hi : i < fs.length) ty, T B (n + 2) (execs (huesW.drop 1) env) ((F, .nf f) :: (fl, .ls (fv.eraseIdx i)) :: (tl, .ls (tv ++ [.int fs[i] ty])) :: L) Q) : T B (n + 2) (execs (huesW.drop 0) env) ((F, .nf f) :: (fl, .ls fv) :: (tl, .ls tv) :: L) Q := by
  have hfl := intsAre_len hf
  refine T_fr rfl ?_
  repeat nest_cls
  refine T_len (by tb_rel) (by rw [hfl]; exact Nat.lt_of_le_of_lt hz2 (by decide)) fun k1 => ?_
  refine T_fmod (by rw [hfl]; exact Int.ne_of_gt (Int.ofNat_lt.mpr hz)) fun k2 => ?_
  rw [mod_ok h0, hfl]
  have hi : num.toNat % fs.length < fs.length := Nat.mod_lt _ hz
  generalize num.toNat % fs.length = i at hi
  refine (intsAre_get hf i fs[i] (List.getElem?_eq_getElem hi)).elim fun ty hy => ?_
  repeat nest_cls
  refine T_popAt (by tb_start) rfl hy (szl (by rw [hfl]; exact Nat.le_trans hz2 (by decide))) ?_
  repeat nest_cls
  refine T_append (by tb_start) (szl (Nat.le_trans hz3 (by decide))) ?_
  repeat nest_cls
  exact T_pick (by kct_strs) (h i hi ty)
theorem h_1 (O : Our B) (E : EnvIs env huesKs F []) (e1 : f "number" = some (.int num t)) (e2 : f "free" = some (.ref fl)) (h0 : 0 ≤ num) (hm : (fl, .ls fv) ∈ L) (hz : fv.length ≤ 16)
    (h : ∀ m k, 0 ≤ m → Q .next ((F, .nf (up f "number" (.int m k))) :: L)) : T B (n + 2) (execs (huesW.drop 1) env) ((F, .nf f) :: L) Q := by
  refine T_fr rfl ?_
  repeat nest_cls
  refine T_len (by tb_rel) (Nat.lt_of_le_of_lt hz (by decide)) fun k3 => ?_
  repeat nest_cls
  refine T_ifdiv (by omega) (PyProof.noPylong_small (by omega)) fun k4 => ?_
  repeat nest_cls
  refine T_nl rfl (h _ _ ?_)
  rw [Int.fdiv_eq_ediv_of_nonneg _ (Int.add_nonneg (Int.natCast_nonneg _) (by decide))]
  exact Int.ediv_nonneg h0 (Int.add_nonneg (Int.natCast_nonneg _) (by decide))
theorem ar11 {a b : Nat} {x k : Int} (h : a + b = 16) (e : (a : Int) = x) (hx : x < k) (hk : k ≤ 4) : 0 < b ∧ b ≤ 16 ∧ a ≤ 16 := by omega
inductive InvH (L : Led) (F fl tl : Addr) : Int → Led → Prop
  | mk {f : Str → Option Value} {fv tv : List Value} {fs ts : List Int} {num : Int} {t : Tok} : f "free" = some (.ref fl) → f "taken" = some (.ref tl) → f "number" = some (.int num t) → 0 ≤ num → IntsAre fv fs → IntsAre tv ts → (ts ++ fs).Perm (rangeKs 0 16) → InvH L F fl tl (ts.length : Int) ((F, .nf f) :: (fl, .ls fv) :: (tl, .ls tv) :: L)
set_option tactic.hygienic true in
theorem c_hues (O : Our B) {a : Int} {Q : Value → Led → Prop} {k : Int} (ha : 0 ≤ a) (h0 : 0 ≤ k) (h1 : k ≤ 4) (h : ∀ l vs hs, IntsAre vs hs → HuesOk k hs → Q (.ref l) ((l, .ls vs) :: L)) : T B (n + 3) (call (.ref 171) [.int a t, .int k u] []) L Q := by
  refine T_weak ?_
  refine T_sdef O 171 [("number", .int a t), ("size", .int k u)] ["free", "taken", "_"] huesKs
    [("size", some (.int k u)), ("number", some (.int a t)), ("free", none), ("taken", none), ("_", none)]
    rfl (by kernel_rfl) rfl rfl (by decide) (by rfl) (by decide) rfl (by rfl) rfl rfl rfl rfl rfl rfl ?_
  intro F env E _ _
  refine T_nfx (P := fun f => f "number" = some (.int a t) ∧ f "size" = some (.int k u)) ⟨rfl, rfl⟩ fun f P => ?_
  have q1 := P.2
  show T B (n + 2) (execs (huesT.drop 0) env) _ _
  refine T_fr rfl ?_
  repeat nest_cls
  refine T_list_range (k := 16) (by tb_rel) rfl rfl (by decide) fun fl fv hfv => ?_
  repeat nest_cls
  rename_i tl
  refine T_fr rfl ?_
  repeat nest_cls
  refine T_iter_range (by tb_rel) (range_small h0 (by omega) (by omega) (by omega)) fun it => ?_
  rw [range_size h0]
  have fin : ∀ {x : Int} {L' : Led}, InvH L F fl tl x L' → x = k → T B (n + 2) (execs (huesT.drop 2) env) L' fun fl L' => ∃ L'', Pick L'' L' ∧ Q (retOf fl) L'' := by
    intro x L' I ex
    cases I with | @mk f fv tv fs ts num t f1 f2 f3 hn hf ht hp =>
    have htl := intsAre_len ht
    refine T_fr rfl ?_
    repeat nest_cls
    refine T_sorted (by tb_rel) ht (by omega) fun r vs' ns' a1 a2 a3 => ?_
    repeat nest_cls
    exact ⟨_, by kct_strs, h _ _ _ a1 (hues_ok hp ex a2 a3)⟩
  refine Tc_pick (L' := (it, rngIter 0 (k - 0)) :: (F, .nf _) :: (fl, .ls fv) :: (tl, .ls []) :: L) (by kct_strs) ?_
  refine Tc_for_range (InvH L F fl tl) (fun ι ι => rfl) ?turn (fun ι I => by cases I; exact List.cons_ne_nil _ _) (fun ι I => T_nil (fin I rfl)) (x := 0) .head h0 (.mk (ts := []) (up_eq) (up_ne rfl up_eq) (up_ne rfl (up_ne rfl P.1)) ha hfv .nil (.refl _))
  intro ia X x tx L' hx I
  cases I with | @mk f fv tv fs ts num t f1 f2 f3 hn hf ht hp =>
  have hlen : ts.length + fs.length = 16 := by have := hp.length_eq; rw [List.length_append, rangeKs_length] at this; exact this
  have hb := ar11 hlen rfl hx h1
  refine T_assignName (T_stf E M4 (.tail .head) ?_)
  refine T_pick (L' := (F, .nf (up f "_" (.int (ts.length : Int) tx))) :: (fl, .ls fv) :: (tl, .ls tv) :: (ia, X) :: L) (.cons .head (.cons R1 (.cons R1 .refl))) ?_
  refine h_0 O E (up_ne rfl f3) (up_ne rfl f1) (up_ne rfl f2) hn hf hb.1 hb.2.1 (by rw [intsAre_len ht]; exact hb.2.2) fun i hi ty => ?_
  refine h_1 O E (up_ne rfl f3) (up_ne rfl f1) hn (.head _) (Nat.le_trans (by rw [List.length_eraseIdx]; split; exact Nat.sub_le _ _; exact Nat.le_refl _) (intsAre_len hf ▸ hb.2.1)) fun m k3 hm => ?_
  refine loop_next ⟨_, .cons R3 .refl, ?_⟩
  have e : ((ts.length : Int) + 1) = (((ts ++ [fs[i]]).length : Nat) : Int) := by rw [List.length_append]; rfl
  rw [e]
  refine .mk (ts := ts ++ [fs[i]]) (up_ne rfl (up_ne rfl f1)) (up_ne rfl (up_ne rfl f2)) up_eq hm (intsAre_erase hf i) (intsAre_append ht (.cons _ _ .nil)) ?_
  refine List.Perm.trans ?_ hp
  rw [List.append_assoc]
  exact List.Perm.append_left ts (erase_perm fs i hi)
end
noncomputable def nameL (i : Nat) : List Nat := (nameOf i).cps.toList
theorem nameL_ok : ((List.range 16).all fun i => (nameL i).all fun c => !(Nat.beq c 34) && !(Nat.beq c 92) && !(Nat.beq c 44) && Nat.blt c 1114112) = true := by kernel_rfl
theorem nameL_len : ((List.range 16).all fun i => Nat.ble 5 (nameL i).length) = true := by kernel_rfl
theorem nameL_sign {i c : Nat} (hi : i < 16) (hc : c ∈ nameL i) : c ≠ 34 ∧ c ≠ 92 ∧ c ≠ 44 ∧ c < 1114112 := by
  have h1 := List.all_eq_true.mp nameL_ok i (List.mem_range.mpr hi)
  have h2 := List.all_eq_true.mp h1 c hc
  simp only [Bool.and_eq_true, Bool.not_eq_true', Nat.blt_eq] at h2
  exact ⟨Nat.ne_of_beq_eq_false h2.1.1.1, Nat.ne_of_beq_eq_false h2.1.1.2, Nat.ne_of_beq_eq_false h2.1.2, h2.2⟩
theorem nameL_len5 {i : Nat} (hi : i < 16) : 5 ≤ (nameL i).length := Nat.le_of_ble_eq_true (List.all_eq_true.mp nameL_len i (List.mem_range.mpr hi))
noncomputable def joinL : List (List Nat) → List Nat
  | [] => []
  | [x] => x
  | x :: y :: r => x ++ [44, 32] ++ joinL (y :: r)
theorem sep_cps : (Str.ofString ", ").cps.toList = [44, 32] := by decide +kernel
theorem join_cps : ∀ ys : List Str, (Str.join (Str.ofString ", ") ys).cps.toList = joinL (ys.map fun y => y.cps.toList)
  | [] => rfl
  | [x] => rfl
  | x :: y :: r => by
    show (x ++ Str.ofString ", " ++ Str.join (Str.ofString ", ") (y :: r)).cps.toList = x.cps.toList ++ [44, 32] ++ joinL ((y :: r).map fun y => y.cps.toList)
    rw [Str.cps_append, Str.cps_append, Array.toList_append, Array.toList_append, join_cps (y :: r), sep_cps]
theorem joinL_mem : ∀ {ws : List (List Nat)} {c : Nat}, c ∈ joinL ws → c = 44 ∨ c = 32 ∨ ∃ w ∈ ws, c ∈ w
  | [], c, h => nomatch h
  | [x], c, h => .inr (.inr ⟨x, .head _, h⟩)
  | x :: y :: r, c, h => by
    rcases List.mem_append.mp (show c ∈ x ++ [44, 32] ++ joinL (y :: r) from h) with h | h
    · rcases List.mem_append.mp h with h | h
      · exact .inr (.inr ⟨x, .head _, h⟩)
      · simp only [List.mem_cons, List.not_mem_nil, or_false] at h
        rcases h with h | h
        · exact .inl h
        · exact .inr (.inl h)
    · rcases joinL_mem h with h | h | ⟨w, hw, h⟩
      · exact .inl h
      · exact .inr (.inl h)
      · exact .inr (.inr ⟨w, .tail _ hw, h⟩)
theorem joinL_len : ∀ {w : List Nat} {ws : List (List Nat)}, w.length ≤ (joinL (w :: ws)).length
  | w, [] => Nat.le_refl _
  | w, y :: r => by
    show w.length ≤ (w ++ [44, 32] ++ joinL (y :: r)).length
    rw [List.length_append, List.length_append]; omega
theorem wordOf_join {h : List Nat} (hne : h ≠ []) : wordOf h = Str.join (Str.ofString ", ") (h.map nameOf) := by
  unfold wordOf Txt.join
  rw [if_neg hne, StrLaws.glued_eq_join]
theorem wordL_join {h : List Nat} (hne : h ≠ []) : wordL h = joinL (h.map nameL) := by
  unfold wordL
  rw [wordOf_join hne, join_cps, List.map_map]
  rfl
theorem wordL_nil : wordL [] = [48, 120, 48] := by decide +kernel
theorem wordL_sign {h : List Nat} (hb : ∀ x ∈ h, x < 16) : ∀ c ∈ wordL h, c ≠ 34 ∧ c ≠ 92 ∧ c < 1114112 := by
  intro c hc
  by_cases hne : h = []
  · subst hne
    rw [wordL_nil] at hc
    simp only [List.mem_cons, List.not_mem_nil, or_false] at hc
    omega
  · rw [wordL_join hne] at hc
    rcases joinL_mem hc with rfl | rfl | ⟨w, hw, hc⟩
    · decide
    · decide
    · obtain ⟨i, hi, rfl⟩ := List.mem_map.mp hw
      have := nameL_sign (hb i hi) hc
      exact ⟨this.1, this.2.1, this.2.2.2⟩
theorem wordL_len5 {h : List Nat} (hb : ∀ x ∈ h, x < 16) (hne : h ≠ []) : 5 ≤ (wordL h).length := by
  rw [wordL_join hne]
  cases h with
  | nil => exact absurd rfl hne
  | cons x r => exact Nat.le_trans (nameL_len5 (hb x (.head _))) joinL_len
theorem wordL_ne {h : List Nat} (hb : ∀ x ∈ h, x < 16) : wordL h ≠ [] := by
  by_cases hne : h = []
  · subst hne; rw [wordL_nil]; decide
  · intro e
    have := wordL_len5 hb hne
    rw [e] at this
    exact absurd this (by decide)
theorem word_not0 {h : List Nat} (hb : ∀ x ∈ h, x < 16) (hne : h ≠ []) : wordOf h ≠ Str.ofString "0x0" := by
  intro e
  have h1 := wordL_len5 hb hne
  have h2 : wordL h = (Str.ofString "0x0").cps.toList := by unfold wordL; rw [e]
  rw [h2] at h1
  exact absurd h1 (by decide +kernel)
theorem word_ok {h : List Nat} (hb : ∀ x ∈ h, x < 16) : PyData.strOk (wordOf h) = true := by
  show ((wordOf h).cps.all (· < 0x110000)) = true
  rw [Array.all_eq_true']
  intro c hc
  have : c ∈ wordL h := by unfold wordL; exact Array.mem_toList_iff.mpr hc
  exact decide_eq_true (wordL_sign hb c this).2.2
theorem at_sep {x : Str} {k : Nat} : StrLaws.At x (Str.ofString ", ") x.length k ↔ k + 2 ≤ x.cps.toList.length ∧ (x.cps.toList.drop k).take 2 = [44, 32] := by
  unfold StrLaws.At
  rw [StrLaws.subAt_eq, sep_cps]
  have e : (Str.ofString ", ").length = 2 := rfl
  have e2 : x.length = x.cps.toList.length := by unfold Str.length; simp
  rw [e, e2, beq_iff_eq]
theorem take2_head {l : List Nat} (h : l.take 2 = [44, 32]) : ∃ r, l = 44 :: 32 :: r := by
  match l, h with
  | a :: b :: r, h =>
    simp only [List.take_succ_cons, List.take_zero, List.cons.injEq, and_true] at h
    exact ⟨r, by rw [h.1, h.2]⟩
theorem no_at {P w R : List Nat} {k : Nat} (hw : ∀ c ∈ w, c ≠ 44) (h1 : P.length ≤ k) (h2 : k < P.length + w.length) : ((P ++ w ++ R).drop k).take 2 ≠ [44, 32] := by
  intro h
  obtain ⟨r, hr⟩ := take2_head h
  have hk : (P ++ w ++ R)[k]? = some 44 := by
    have := congrArg (·[0]?) hr
    simpa using this
  rw [List.append_assoc, List.getElem?_append_right h1, List.getElem?_append_left (by omega)] at hk
  exact hw 44 (List.mem_of_getElem? hk) rfl
theorem parts_join (x : Str) : ∀ (ws : List (List Nat)) (w P : List Nat) (cuts : List Nat) (f : Nat), (∀ v ∈ w :: ws, ∀ c ∈ v, c ≠ 44) → x.cps.toList = P ++ joinL (w :: ws) →
    StrLaws.ChainG x (Str.ofString ", ") x.length P.length cuts f → (∀ k, f ≤ k → ¬ StrLaws.At x (Str.ofString ", ") x.length k) →
    (StrLaws.partsFrom x 2 P.length cuts).map (fun y => y.cps.toList) = w :: ws := by
  have e2 : x.length = x.cps.toList.length := by unfold Str.length; simp
  intro ws
  induction ws with
  | nil =>
    intro w P cuts f hw hx hc hf
    have hx' : x.cps.toList = P ++ w ++ [] := by rw [List.append_nil]; exact hx
    have hlen : x.cps.toList.length = P.length + w.length := by rw [hx]; exact List.length_append
    have hno : ∀ k, P.length ≤ k → ¬ StrLaws.At x (Str.ofString ", ") x.length k := fun k hk ha => by
      obtain ⟨a1, a2⟩ := at_sep.mp ha
      rw [hx'] at a2
      exact no_at (hw w (.head _)) hk (by omega) a2
    cases cuts with
    | nil =>
      show [(PySem.Builtin.Str.strSub x P.length x.length).cps.toList] = [w]
      rw [StrLaws.strSub_toList, hx, List.drop_left, e2, hlen, Nat.add_sub_cancel_left, show joinL [w] = w from rfl, List.take_length]
    | cons c r => exact absurd hc.2.1 (hno c hc.1)
  | cons v ws ih =>
    intro w P cuts f hw hx hc hf
    have hx' : x.cps.toList = P ++ w ++ ([44, 32] ++ joinL (v :: ws)) := by
      rw [hx]
      show P ++ (w ++ [44, 32] ++ joinL (v :: ws)) = _
      simp only [List.append_assoc]
    have hlen : x.cps.toList.length = P.length + w.length + (2 + (joinL (v :: ws)).length) := by rw [hx', List.length_append, List.length_append, List.length_append]; rfl
    have hno : ∀ k, P.length ≤ k → k < P.length + w.length → ¬ StrLaws.At x (Str.ofString ", ") x.length k := fun k hk hk2 ha => by
      obtain ⟨a1, a2⟩ := at_sep.mp ha
      rw [hx'] at a2
      exact no_at (hw w (.head _)) hk hk2 a2
    have hat : StrLaws.At x (Str.ofString ", ") x.length (P.length + w.length) := at_sep.mpr ⟨by omega, by
      rw [hx', ← List.length_append, List.drop_left]
      rfl⟩
    cases cuts with
    | nil =>
      have hf' : f = P.length := hc
      exact absurd hat (hf _ (by omega))
    | cons c r =>
      obtain ⟨c1, c2, c3, c4⟩ := hc
      have ec : c = P.length + w.length := by
        rcases Nat.lt_trichotomy c (P.length + w.length) with h | h | h
        · exact absurd c2 (hno c c1 h)
        · exact h
        · exact absurd hat (c3 _ (by omega) h)
      subst ec
      have eP : (P ++ w ++ [44, 32]).length = P.length + w.length + (Str.ofString ", ").length := by
        rw [List.length_append, List.length_append]; rfl
      rw [← eP] at c4
      have := ih v (P ++ w ++ [44, 32]) r f (fun u hu => hw u (.tail _ hu)) (by rw [hx']; simp only [List.append_assoc]) c4 hf
      show (PySem.Builtin.Str.strSub x P.length (P.length + w.length)).cps.toList :: (StrLaws.partsFrom x 2 (P.length + w.length + 2) r).map (fun y => y.cps.toList) = w :: v :: ws
      have e3 : P.length + w.length + 2 = (P ++ w ++ [44, 32]).length := by rw [eP]; rfl
      rw [e3, this, StrLaws.strSub_toList, hx', List.append_assoc, List.drop_left, Nat.add_sub_cancel_left, List.take_left]
set_option tactic.hygienic true in
theorem word_split {h : List Nat} (hb : ∀ x ∈ h, x < 16) (hne : h ≠ []) : Txt.split (wordOf h) (Str.ofString ", ") = h.map nameOf := by
  have key : (Txt.split (wordOf h) (Str.ofString ", ")).map (fun y => y.cps.toList) = h.map nameL := by
    obtain ⟨i, r, rfl⟩ : ∃ i r, h = i :: r := by
      cases h with
      | nil => exact absurd rfl hne
      | cons i r => exact ⟨i, r, rfl⟩
    obtain ⟨f, hG, hf⟩ := StrLaws.occ_tight (wordOf (i :: r)) (Str.ofString ", ") (by decide)
    have hx : (wordOf (i :: r)).cps.toList = [] ++ joinL ((i :: r).map nameL) := by rw [List.nil_append, ← wordL_join hne]; rfl
    have hP := parts_join (wordOf (i :: r)) (r.map nameL) (nameL i) [] _ f (fun v hv c hc => by
      rw [← List.map_cons] at hv
      obtain ⟨j, hj, rfl⟩ := List.mem_map.mp hv
      exact (nameL_sign (hb j hj) hc).2.2.1) hx hG hf
    have hlen5 := wordL_len5 hb hne
    unfold Txt.split
    rw [if_neg, List.map_cons]
    · split
      · rename_i hemp
        rw [List.isEmpty_iff.mp hemp] at hP
        rw [← hP]
        show [(wordOf (i :: r)).cps.toList] = [(PySem.Builtin.Str.strSub (wordOf (i :: r)) 0 (wordOf (i :: r)).length).cps.toList]
        rw [StrLaws.sub_whole]
      · rw [StrLaws.partsBetween_eq]
        exact hP
    · intro hc
      rw [Bool.or_eq_true, decide_eq_true_eq, decide_eq_true_eq] at hc
      rcases hc with hc | hc
      · have e1 : (Str.ofString ", ").length = 2 := rfl
        have e2 : (wordOf (i :: r)).length = (wordL (i :: r)).length := by unfold wordL Str.length; simp
        omega
      · have e1 : PySem.Builtin.Str.strKind (Str.ofString ", ") = 1 := by decide +kernel
        have e2 : 1 ≤ PySem.Builtin.Str.strKind (wordOf (i :: r)) := by unfold PySem.Builtin.Str.strKind; split <;> (try split) <;> decide
        omega
  have e : ∀ ys : List Str, ys.map (fun y => y.cps.toList) = h.map nameL → ys = h.map nameOf := by
    intro ys hys
    have hinj : ∀ (ys zs : List Str), ys.map (fun y => y.cps.toList) = zs.map (fun y => y.cps.toList) → ys = zs := by
      intro ys
      induction ys with
      | nil => intro zs hz; cases zs with | nil => rfl | cons z zs => cases hz
      | cons y ys ih =>
        intro zs hz
        cases zs with
        | nil => cases hz
        | cons z zs =>
          rw [List.map_cons, List.map_cons, List.cons.injEq] at hz
          rw [ih zs hz.2, Str.ext' (Array.toList_inj.mp hz.1)]
    refine hinj _ _ ?_
    rw [hys, List.map_map]
    rfl
  exact e _ key
section
variable {B : Bg} {n : Nat} {L L' L₁ L₂ R : Led} {env cenv : Env} {s : Shared} {a b : Int} {t u : Tok} {pos : Pos} {x y : Str} {elt target iter : Expr} {scope : Scope} {l it acc C : Addr} {vs : List Value} {xn : Str}
theorem Tc_comp_rg {N : Nat} {Q : Flow → Led → Prop} (Inv : Nat → List Value → Led → Prop) (hz : ∀ j av R, Inv j av R → av.length ≤ 1000) (ht : ∀ it v, letOwnedTupleGo target it v = pure ())
    (turn : ∀ (X : It) (j : Nat) (tk : Tok) (o : Option Value) (av : List Value) (R : Led), j < N → Inv j av R → T B (n + 1) (assign target cenv (.int (j : Int) tk)) ((it, X) :: (C, .ns [(xn, o)]) :: (acc, .ls av) :: R) fun ι L₁ => T B (n + 1) (eval elt cenv) L₁ fun y L₂ => ∃ o' R', Pick ((it, X) :: (C, .ns [(xn, o')]) :: (acc, .ls av) :: R') L₂ ∧ Inv (j + 1) (av ++ [y]) R')
    (fin : ∀ o av R, Inv N av R → Q .next ((C, .ns [(xn, o)]) :: (acc, .ls av) :: R)) (h : Inv 0 [] R) :
    Tc B (n + 1) (.compLoop (.ListComp elt [⟨target, iter, [], 0⟩] scope pos) 0 (.ref it) (.ref acc) cenv) ((C, .ns [(xn, none)]) :: (acc, .ls []) :: (it, rngIter 0 (N : Int)) :: R) Q := by
  refine Tc_pick (L' := (it, rngIter 0 (N : Int)) :: (C, .ns [(xn, none)]) :: (acc, .ls []) :: R) (Pick.cons (.tail (.tail .head)) .refl) ?_
  refine Tc_comp (fun k L => ∃ (j : Nat) (o : Option Value) (av : List Value) (R : Led) (x lf : Int), L = (it, rngIter x lf) :: (C, .ns [(xn, o)]) :: (acc, .ls av) :: R ∧ j + k = N ∧ x = (j : Int) ∧ lf = (k : Int) ∧ Inv j av R) (fun v => ht _ v) ?_ N ⟨0, none, [], R, 0, (N : Int), rfl, by omega, rfl, rfl, h⟩
  rintro k L' ⟨j, o, av, R, x, lf, rfl, hj, rfl, rfl, hI⟩
  cases k with
  | zero =>
    have e : j = N := by omega
    subst e
    exact T_end_range .head (by simp) (List.cons_ne_nil _ _) (fin _ _ _ hI)
  | succ k =>
    refine T_next_range .head (by omega) fun tk => ?_
    refine T_mono (turn (rngIter ((j : Int) + 1) (((k + 1 : Nat) : Int) - 1)) j tk o av R (by omega) hI) fun ι L₁ h1 => T_mono h1 fun z L₂ ⟨o', R', hp, hI'⟩ => ?_
    refine T_pick hp (T_append (.tail (.tail .head)) (szk (hz _ _ _ hI)) ?_)
    exact ⟨k, _, Nat.lt_succ_self _, Pick.cons (.tail .head) (Pick.cons (.tail .head) .refl), j + 1, o', _, R', _, _, rfl, by omega, by push_cast; rfl, by push_cast; omega, hI'⟩
end
theorem count_nlc (cs : List Nat) : Txt.count (toS cs) (Str.ofString "\n") = nlc cs := by
  have e : Str.ofString "\n" = ⟨#[10]⟩ := by decide +kernel
  rw [e, count_is]
  show cnt 10 (toS cs).cps.toList = nlc cs
  have e2 : (toS cs).cps.toList = cs := by unfold toS; simp
  rw [e2]
  induction cs with
  | nil => rfl
  | cons c cs ih =>
    rw [cnt_cons, nlc_cons, ih (by unfold toS; simp)]
    rfl
theorem natsAre_at {vs : List Value} {cs : List Nat} (h : IntsAre vs (cs.map (fun x : Nat => (x : Int)))) {k : Nat} (hk : k < cs.length) : ∃ t, vs[k]? = some (.int (cs[k] : Nat) t) :=
  intsAre_get h k _ (by simp [hk])
theorem intsAre_val {vs : List Value} {ns : List Int} (h : IntsAre vs ns) : ∀ {k : Nat} {x : Value}, vs[k]? = some x → ∃ z t, x = .int z t := by
  induction h with
  | nil => intro k x e; simp at e
  | cons y u _ ih =>
    intro k x e
    cases k with
    | zero => simp at e; exact ⟨_, _, e.symm⟩
    | succ k => exact ih (by simpa using e)
theorem intsAre_set {vs : List Value} {ns : List Int} (h : IntsAre vs ns) : ∀ (k : Nat) (a : Int) (t : Tok), IntsAre (vs.set k (.int a t)) (ns.set k a) := by
  induction h with
  | nil => intro k a t; exact .nil
  | cons y u _ ih =>
    intro k a t
    cases k with
    | zero => exact .cons _ _ (by assumption)
    | succ k => exact .cons _ _ (ih k a t)
theorem natHues {k : Nat} {hs : List Int} (h : HuesOk k hs) : ∃ d : List Nat, hs = d.map (fun x : Nat => (x : Int)) ∧ d.length = k ∧ d.Pairwise (· < ·) ∧ ∀ x ∈ d, x < 16 := by
  obtain ⟨h1, h2, h3⟩ := h
  have e : hs = (hs.map Int.toNat).map (fun x : Nat => (x : Int)) := by
    clear h1 h2
    induction hs with
    | nil => rfl
    | cons x r ih =>
      have h0 := (h3 x (.head _)).1
      rw [List.map_cons, List.map_cons, ← ih fun y hy => h3 y (.tail _ hy)]
      congr 1
      exact (Int.toNat_of_nonneg h0).symm
  refine ⟨hs.map Int.toNat, e, by rw [List.length_map]; omega, ?_, fun x hx => ?_⟩
  · rw [List.pairwise_map]
    exact h2.imp_of_mem fun {a b} ha hb hab => by
      have := (h3 a ha).1
      have := (h3 b hb).1
      omega
  · obtain ⟨y, hy, rfl⟩ := List.mem_map.mp hx
    have := h3 y hy
    omega
structure DrOk (d : List Nat) : Prop where
  lt : d.Pairwise (· < ·)
  b : ∀ x ∈ d, x < 16
theorem T_sepItem {B : Bg} {n : Nat} {L : Led} {Q : Value → Led → Prop} {l : Addr} {t t0 t1 t2 t3 : Tok} {i : Nat} {value slice : Expr} (hm : (l, It.ls [.str "\n" t0, .str " \t" t1, .str "\r\n" t2, .str "  " t3]) ∈ L) (hi : i < 4)
    (hs : subscripted slice false (.ref l) (.int (i : Nat) t) = operate [.ref l, .int (i : Nat) t] (getItem (.ref l) (.int (i : Nat) t))) (h : ∀ t, Q (.str (toS (sepL i)) t) L) : T B n (subscriptTail value slice (.ref l) (.int (i : Nat) t)) L Q := by
  obtain ⟨tq, hq⟩ := T_sepL hi t0 t1 t2 t3
  exact T_item_ls hm (by omega) (by omega) (by rw [Int.toNat_natCast]; exact hq) hs (h tq)
theorem intsAre_comp {av : List Value} {l : List Nat} {x : Nat} {t : Tok} (h : IntsAre av (l.map fun i : Nat => (2 : Int) ^ i)) : IntsAre (av ++ [.int ((1 : Int) * 2 ^ ((x : Int)).toNat) t]) ((l ++ [x]).map fun i : Nat => (2 : Int) ^ i) := by
  rw [List.map_append]
  refine intsAre_append h ?_
  have e : ((1 : Int) * 2 ^ ((x : Int)).toNat) = (2 : Int) ^ x := by rw [Int.one_mul, Int.toNat_natCast]
  rw [e]
  exact .cons _ _ .nil
theorem T_tailItem {B : Bg} {n : Nat} {L : Led} {Q : Value → Led → Prop} {l : Addr} {t t0 t1 t2 t3 : Tok} {i : Nat} {value slice : Expr} (hm : (l, It.ls [.str "end" t0, .str "\"end" t1, .str "e\\nd" t2, .str "\"end\"" t3]) ∈ L) (hi : i < 4)
    (hs : subscripted slice false (.ref l) (.int (i : Nat) t) = operate [.ref l, .int (i : Nat) t] (getItem (.ref l) (.int (i : Nat) t))) (h : ∀ t, Q (.str (toS (tailL i)) t) L) : T B n (subscriptTail value slice (.ref l) (.int (i : Nat) t)) L Q := by
  have key : ∃ t, ([.str "end" t0, .str "\"end" t1, .str "e\\nd" t2, .str "\"end\"" t3] : List Value)[i]? = some (.str (toS (tailL i)) t) := by
    match i, hi with
    | 0, _ => exact ⟨t0, by congr 2; all_goals decide +kernel⟩
    | 1, _ => exact ⟨t1, by congr 2; all_goals decide +kernel⟩
    | 2, _ => exact ⟨t2, by congr 2; all_goals decide +kernel⟩
    | 3, _ => exact ⟨t3, by congr 2; all_goals decide +kernel⟩
  obtain ⟨tq, hq⟩ := key
  exact T_item_ls hm (by omega) (by omega) (by rw [Int.toNat_natCast]; exact hq) hs (h tq)
noncomputable abbrev scW : Scope := { kind := .function, names := [(".0", .local), ("word", .local), ("names", .free)], isGenerator := false, isCoroutine := false, more := [] }
noncomputable abbrev scO : Scope := { kind := .function, names := [(".0", .local), ("one", .local), ("sorted", .globalImplicit), ("names", .free)], isGenerator := false, isCoroutine := false, more := [] }
section
variable {B : Bg} {n : Nat} {L L' : Led} {env : Env} {ks : List (Str × NameKind)} {F cN nl l : Addr} {cl : List (Str × Addr)} {it : It} {vs : List Value} {iter : Expr} {p1 p2 p3 p4 p5 p6 p7 p8 p9 p10 p11 : Pos} {Q : Value → Led → Prop}
theorem home_turn (O : Our B) (hpp : (p3.endLine == p5.line) = true) {C d : Addr} {cenv : Env} {G M : Led} {ws ss : List Nat} (kc' : (cN, It.ce (some (.ref nl))) ∈ G) (hnl : LsW G nl flagNames) (hd : LsW G d (ws.map nameOf)) (hq : ws.Perm ss ∧ (ss.map ci).Pairwise (· ≤ ·) ∧ (∀ z ∈ ws, z < 16) ∧ ws.length < 64)
    (E' : EnvIs cenv (("one", .local) :: ("names", .cell) :: ("sorted", .globalImplicit) :: []) C [(("names" : Str), cN)]) (hC : (C, It.ns [("one", some (.ref d))]) ∈ G) :
    T B (n + 5) (eval (.Call (.Name "sorted" p1) [.ListComp (.Call (.Attribute (.Name "names" p2) "index" p3) [.Name "word" p4] [] p5) [⟨.Name "word" p6, .Name "one" p7, [], 0⟩] scW p8] [] p9) cenv) G fun y L' => ∃ e, L' = e ++ G ∧ ∃ d, y = .ref d ∧ LsN (e ++ M) d ss := by
  refine hnl.elim fun nvs hn => hd.elim fun wv hw => ?_
  have hn' := hn.1
  have hd' := hw.1
  repeat nest_cls
  refine T_map (M := G) (l := d) (vs := wv) (xs := ws) (ks' := [("word", .local), ("names", .cell)]) (W := fun (ι : Led) (z : Nat) (y : Value) => ∃ t, y = .int ((z : Nat) : Int) t) E' rfl (List.nodup_cons.mpr ⟨List.not_mem_nil, List.nodup_nil⟩) rfl rfl rfl (by kst_allIn) (by kst_allIn) (.head _) (fun ι => rfl) ⟨fun ι => rfl, fun Q h => ?one⟩ hd' (Are.of_strs hw.2) (Nat.le_of_lt (Nat.lt_of_lt_of_le hq.2.2.2 (by decide))) (fun ι h => h) ?turn2 ?h2
  case one =>
    repeat nest_cls
    exact h
  case turn2 =>
    rintro z _ C3 cenv3 G3 hz3 ⟨t3, rfl⟩ E3 hC3 sub3
    have kc3 := sub3 _ kc'
    have hn3 := sub3 _ hn'
    have z16 := hq.2.2.1 z hz3
    refine T_MethS1 rfl hpp rfl rfl ?_
    repeat nest_cls
    refine T_indexStr (by tb_rel) hn.2 (flag_get z z16) (fun m hm => flag_first z16 hm) (by rw [strsAre_len hn.2]; exact (by decide : 16 ≤ 1000)) fun k1 => ?_
    exact ⟨[], rfl, k1, rfl⟩
  intro a3 ys e h3
  repeat nest_cls
  have h3' := h3.ints
  refine T_sorted (by tb_rel) h3' (by rw [h3.len]; exact hq.2.2.2) fun r vs' ns' w1 w2 w3 => ?_
  exact ⟨(r, .ls vs') :: (a3, .ls ys) :: e, rfl, r, rfl, vs', .head _, sorted_eq (w2.trans (hq.1.map ci)) w3 hq.2.1 ▸ w1⟩
theorem T_home (O : Our B) (hpp : (p3.endLine == p5.line) = true) (E : EnvIs env ks F cl) (hcl : closL scO.names cl [] = some [(("names" : Str), cN)]) (hf : (scO.names.all fun x => x.2 != .free || (ks.lookup x.1).isSome) = true)
    (hks : (([("one", .local), ("names", .cell), ("sorted", .globalImplicit)] : List (Str × NameKind)).all fun p => (relabL ks scO.names).lookup p.1 == some p.2 && !(p.1 == ("__debug__" : Str)) && !(p.1 == ("__classdict__" : Str))) = true)
    (hs : ∀ x, foldedSetIterable iter env x = pure x) (kc : (cN, It.ce (some (.ref nl))) ∈ L) (hnl : LsW L nl flagNames)
    (hi : Ev B (n + 5) env ((F, it) :: L) iter (.ref l)) (hl : (l, It.ls vs) ∈ L) {xs : List (List Nat × List Nat)} (hv : Are (fun p v => ∃ d, v = .ref d ∧ LsW L d (p.1.map nameOf)) xs vs) (hz : xs.length ≤ 1000)
    (hp : ∀ p ∈ xs, p.1.Perm p.2 ∧ (p.2.map ci).Pairwise (· ≤ ·) ∧ (∀ z ∈ p.1, z < 16) ∧ p.1.length < 64)
    (h : ∀ a ys e, Are (fun p v => ∃ d, v = .ref d ∧ LsN (e ++ L) d p.2) xs ys → Q (.ref a) ((F, it) :: (a, .ls ys) :: (e ++ L))) :
    T B (n + 5) (eval (.ListComp (.Call (.Name "sorted" p1) [.ListComp (.Call (.Attribute (.Name "names" p2) "index" p3) [.Name "word" p4] [] p5) [⟨.Name "word" p6, .Name "one" p7, [], 0⟩] scW p8] [] p9) [⟨.Name "one" p10, iter, [], 0⟩] scO p11) env) ((F, it) :: L) Q := by
  refine T_weak ?_
  refine T_map (ks' := [("one", .local), ("names", .cell), ("sorted", .globalImplicit)]) (W := fun (G : Led) (p : List Nat × List Nat) (v : Value) => ∃ d, v = .ref d ∧ LsN G d p.2) E hcl (List.nodup_cons.mpr ⟨List.not_mem_nil, List.nodup_nil⟩) rfl rfl rfl hf hks (.head _) hs hi (.tail _ hl) hv hz (fun s h => h.elim fun d h => ⟨d, h.1, h.2.mono s⟩) ?turn fun a ys e hy => ⟨_, .cons (.tail rem_app) (.cons .head .refl), h _ _ _ hy⟩
  rintro ⟨ws, ss⟩ _ C cenv G hm ⟨d, rfl, hd⟩ E' hC sub
  exact home_turn O hpp (sub _ (.tail _ kc)) (hnl.mono fun p hp => sub p (.tail _ hp)) (hd.mono fun p hp => sub p (.tail _ hp)) (hp _ hm) E' hC
theorem rd_are {M : Led} {xs : List (List Nat × List Nat)} {ys : List Value} (s : Sub M L) (h : Are (fun p v => ∃ d, v = .ref d ∧ LsN M d p.2) xs ys) : RdAll B L ys ((xs.map fun p => p.2.map ci).map fun x => .list (x.map .int)) := by
  induction h with
  | nil => exact rdAll_nil
  | cons h _ ih =>
    refine h.elim fun d h => h.2.elim fun v k => ?_
    rw [h.1]
    exact rdAll_cons (rd_ls (s _ k.1) (rdAll_ints k.2)) ih
theorem T_neHome {M M' : Led} {xs : List (List Nat × List Nat)} {ys zs : List Value} {a b : Addr} {Q : Value → Led → Prop} (s : Sub M L) (h : Are (fun p v => ∃ d, v = .ref d ∧ LsN M d p.2) xs ys) (s' : Sub M' L) (h' : Are (fun p v => ∃ d, v = .ref d ∧ LsN M' d p.2) xs zs) (ma : (a, It.ls ys) ∈ L) (mb : (b, It.ls zs) ∈ L) (k : Q (.bool false) L) :
    T B (n + 1) (compareOp .NotEq (.ref a) (.ref b)) L Q := T_neLists ma (rd_are s h) mb (rd_are s' h') (Nat.le_add_left 1 n) k
end
noncomputable abbrev lawKs : List (Str × NameKind) := ("script", .local) :: ("cells", .local) :: ("place", .local) :: ("number", .local) :: ("seed", .local) :: ("big", .local) :: ("drawn", .local) :: ("text", .local) :: ("one", .local) :: ("word", .local) :: ("kind", .local) :: ("mark", .local) :: ("words", .local) :: ("rows", .local) :: ("box", .local) :: ("first", .local) :: ("second", .local) :: ("across", .local) :: ("left", .local) :: ("right", .local) :: ("early", .local) :: ("some", .local) :: ("other", .local) :: ("more", .local) :: ("less", .local) :: ("least", .local) :: ("end", .local) :: ("third", .local) :: ("fourth", .local) :: ("last", .local) :: ("again", .local) :: ("home", .local) :: ("rest", .local) :: ("mid", .cell) :: ("names", .cell) :: ("back", .cell) :: ("lexer", .cell) :: ("line", .cell) :: ("hues", .cell) :: ("front", .cell) :: ("rear", .cell) :: ("met", .cell) :: ("enumerate", .globalImplicit) :: ("min", .globalImplicit) :: ("_law_hues", .globalImplicit) :: ("pretty_flags", .globalImplicit) :: ("sum", .globalImplicit) :: ("_law_lexer", .globalImplicit) :: ("_law_told", .globalImplicit) :: ("_law_pass", .globalImplicit) :: ("_law_meet", .globalImplicit) :: ("range", .globalImplicit) :: []
noncomputable abbrev lawCl (c : Nat → Addr) : List (Str × Addr) := ("met", c 8) :: ("rear", c 7) :: ("front", c 6) :: ("hues", c 5) :: ("line", c 4) :: ("lexer", c 3) :: ("back", c 2) :: ("names", c 1) :: ("mid", c 0) :: []
section
variable {B : Bg} {n : Nat} {L L' : Led} {env : Env} {F nl : Addr} {c : Nat → Addr} {f : Str → Option Value} {vs : List Value} {Q : Flow → Led → Prop}
set_option maxHeartbeats 4000000
theorem s28 (E : EnvIs env lawKs F (lawCl c)) {ac t3 t4 g3 g4 g5 r0 : Addr} {x1 x2 : Value} (hs : f "second" = some (.ref ac)) (hac : (ac, It.ls [.ref t3, .ref t4]) ∈ L) (h3 : (t3, tup [.ref g3, x1]) ∈ L) (h4 : (t4, tup [.ref g4, x2]) ∈ L)
    (k8 : (c 8, It.ce (some (.ref g5))) ∈ L) (k6 : (c 6, It.ce (some (.ref r0))) ∈ L)
    (h : ∀ el, T B (n + 10) (execs (bodyFrom B.w.params 29) env) ((F, .nf (up f "end" (.ref el))) :: (el, .ls [.ref g3, .ref g4, .ref g5, .ref r0]) :: L) Q) : T B (n + 10) (execs (bodyFrom B.w.params 28) env) ((F, .nf f) :: L) Q := by
  refine T_from rfl ?_
  repeat nest_cls
  exact h _
theorem s29 (O : Our B) (E : EnvIs env lawKs F (lawCl c)) {el b1 b2 b3 b4 : Addr} {w1 w2 w3 w4 y1 y2 y3 y4 : List Nat} (he : f "end" = some (.ref el)) (h1 : f "box" = some (.ref b1)) (h2 : f "other" = some (.ref b2)) (h3 : f "left" = some (.ref b3)) (h4 : f "right" = some (.ref b4))
    (kc : (c 1, It.ce (some (.ref nl))) ∈ L) (hnl : LsW L nl flagNames) (hl : (el, It.ls vs) ∈ L) (hv : Are (fun (p : List Nat × List Nat) v => ∃ d, v = .ref d ∧ LsW L d (p.1.map nameOf)) [(w1, y1), (w2, y2), (w3, y3), (w4, y4)] vs)
    (hp : ∀ p ∈ [(w1, y1), (w2, y2), (w3, y3), (w4, y4)], p.1.Perm p.2 ∧ (p.2.map ci).Pairwise (· ≤ ·) ∧ (∀ z ∈ p.1, z < 16) ∧ p.1.length < 64)
    (q1 : LsN L b1 y1) (q2 : LsN L b2 y2) (q3 : LsN L b3 y3) (q4 : LsN L b4 y4)
    (h : T B (n + 10) (execs (bodyFrom B.w.params 30) env) ((F, .nf f) :: L) Q) : T B (n + 10) (execs (bodyFrom B.w.params 29) env) ((F, .nf f) :: L) Q := by
  refine T_from rfl ?_
  repeat nest_cls
  refine T_home O rfl E rfl (by kst_allIn) (by kst_allIn) (fun ι => rfl) kc hnl (ev_f E (by tb_rel) he) hl hv (by decide : 4 ≤ 1000) hp fun a ys e hy => ?_
  repeat nest_cls
  refine T_neHome (fun p hp => .tail _ (.tail _ (.tail _ hp))) hy (fun p hp => .tail _ (.tail _ (.tail _ (List.mem_append_right _ hp)))) (.cons ⟨b1, rfl, q1⟩ (.cons ⟨b2, rfl, q2⟩ (.cons ⟨b3, rfl, q3⟩ (.cons ⟨b4, rfl, q4⟩ .nil)))) (by tb_rel) (.head _) ?_
  repeat nest_cls
  refine T_pick (L' := (F, .nf f) :: L) (.cons (.tail .head) (.skip (.skip pick_app))) h
theorem s30 (E : EnvIs env lawKs F (lawCl c)) {a1 a2 t1 t2 t3 t4 : Addr} {x1 x2 x3 x4 : Value} {i1 i2 i3 i4 sm le mo la : Nat} {u1 u2 u3 u4 v1 v2 v3 v4 : Tok} (h1 : f "first" = some (.ref a1)) (h2 : f "second" = some (.ref a2))
    (m1 : (a1, It.ls [.ref t1, .ref t2]) ∈ L) (m2 : (a2, It.ls [.ref t3, .ref t4]) ∈ L) (n1 : (t1, tup [x1, .int ((i1 : Nat) : Int) u1]) ∈ L) (n2 : (t2, tup [x2, .int ((i2 : Nat) : Int) u2]) ∈ L) (n3 : (t3, tup [x3, .int ((i3 : Nat) : Int) u3]) ∈ L) (n4 : (t4, tup [x4, .int ((i4 : Nat) : Int) u4]) ∈ L)
    (g1 : f "some" = some (.int ((sm : Nat) : Int) v1)) (g2 : f "less" = some (.int ((le : Nat) : Int) v2)) (g3 : f "more" = some (.int ((mo : Nat) : Int) v3)) (g4 : f "least" = some (.int ((la : Nat) : Int) v4))
    (e1 : ((i1 : Nat) : Int) + ((i3 : Nat) : Int) = (sm : Int) + (le : Int)) (e2 : ((i2 : Nat) : Int) + ((i4 : Nat) : Int) = (mo : Int) + (la : Int))
    (h : T B (n + 10) (execs (bodyFrom B.w.params 31) env) ((F, .nf f) :: L) Q) : T B (n + 10) (execs (bodyFrom B.w.params 30) env) ((F, .nf f) :: L) Q := by
  refine T_from rfl ?_
  repeat nest_cls
  rw [e1, e2]
  refine T_neInts (by tb_rel) (.cons _ _ (.cons _ _ .nil)) (by tb_rel) (.cons _ _ (.cons _ _ .nil)) (Nat.le_add_left 1 _) ?_
  repeat nest_cls
  refine T_pick (L' := (F, .nf f) :: L) (by kct_strs) h
theorem s31 (E : EnvIs env lawKs F (lawCl c)) {a1 t1 t2 : Addr} {x1 x2 : Value} {i1 i2 ea ac le la : Nat} {u1 u2 v1 v2 v3 v4 : Tok} (h1 : f "first" = some (.ref a1))
    (m1 : (a1, It.ls [.ref t1, .ref t2]) ∈ L) (n1 : (t1, tup [x1, .int ((i1 : Nat) : Int) u1]) ∈ L) (n2 : (t2, tup [x2, .int ((i2 : Nat) : Int) u2]) ∈ L)
    (g1 : f "early" = some (.int ((ea : Nat) : Int) v1)) (g2 : f "across" = some (.int ((ac : Nat) : Int) v2)) (g3 : f "less" = some (.int ((le : Nat) : Int) v3)) (g4 : f "least" = some (.int ((la : Nat) : Int) v4))
    (e1 : (((i1 : Nat) : Int) + ((i2 : Nat) : Int) + ((ea : Nat) : Int) != ((ac : Nat) : Int) + ((le : Nat) : Int) + ((la : Nat) : Int)) = false)
    (h : T B (n + 10) (execs (bodyFrom B.w.params 32) env) ((F, .nf f) :: L) Q) : T B (n + 10) (execs (bodyFrom B.w.params 31) env) ((F, .nf f) :: L) Q := by
  refine T_from rfl ?_
  repeat nest_cls
  rw [e1]
  repeat nest_cls
  exact h
theorem lk_drawn : (("drawn" : Str), NameKind.local) ∈ lawKs := by tb_rel
theorem lk_left : (("left" : Str), NameKind.local) ∈ lawKs := by tb_rel
theorem lk_right : (("right" : Str), NameKind.local) ∈ lawKs := by tb_rel
theorem lk_early : (("early" : Str), NameKind.local) ∈ lawKs := by tb_rel
theorem lk_box : (("box" : Str), NameKind.local) ∈ lawKs := by tb_rel
theorem lk_some : (("some" : Str), NameKind.local) ∈ lawKs := by tb_rel
theorem lk_other : (("other" : Str), NameKind.local) ∈ lawKs := by tb_rel
theorem lk_more : (("more" : Str), NameKind.local) ∈ lawKs := by tb_rel
theorem lk_less : (("less" : Str), NameKind.local) ∈ lawKs := by tb_rel
theorem lk_least : (("least" : Str), NameKind.local) ∈ lawKs := by tb_rel
theorem lk_meet : (("_law_meet" : Str), NameKind.globalImplicit) ∈ lawKs := by tb_rel
theorem s23 (O : Our B) (E : EnvIs env lawKs F (lawCl c)) {dl d0 d1 d2 d3 : Addr} {h0 h1 h2 h3 : List Nat} (hd : f "drawn" = some (.ref dl)) (hdl : (dl, It.ls [.ref d0, .ref d1, .ref d2, .ref d3]) ∈ L) (i0 : LsN L d0 h0) (i1 : LsN L d1 h1) (i2 : LsN L d2 h2) (i3 : LsN L d3 h3)
    (k0 : DrOk h0) (k1 : DrOk h1) (k2 : DrOk h2) (k3 : DrOk h3) (l0 : h0.length ≤ 4) (l10 : h1.length ≤ h0.length) (l21 : h2.length ≤ h1.length) (l31 : h3.length ≤ h1.length)
    (h : ∀ (b o l r : Addr) (e1 e2 e3 e4 e5 : Nat) (u1 u2 u3 u4 u5 : Tok) (L0 R0 bx0 R1 ot0 R2 bx L1 ot L2 : List Nat) (f' : Str → Option Value) (e : Led),
      PL h0 h1 L0 R0 e1 → PL R0 h2 bx0 R1 e2 → PL R1 h3 ot0 R2 e3 → PL L0 bx0 bx L1 e4 → PL L1 ot0 ot L2 e5 → Kept ["left", "right", "early", "box", "some", "other", "more", "less", "least"] f f' →
      f' "box" = some (.ref b) → f' "other" = some (.ref o) → f' "left" = some (.ref l) → f' "right" = some (.ref r) → LsN (e ++ L) b bx → LsN (e ++ L) o ot → LsN (e ++ L) l L2 → LsN (e ++ L) r R2 →
      (bx.map ci).Pairwise (· ≤ ·) → (ot.map ci).Pairwise (· ≤ ·) → (L2.map ci).Pairwise (· ≤ ·) → (R2.map ci).Pairwise (· ≤ ·) →
      f' "early" = some (.int ((e1 : Nat) : Int) u1) → f' "some" = some (.int ((e2 : Nat) : Int) u2) → f' "more" = some (.int ((e3 : Nat) : Int) u3) → f' "less" = some (.int ((e4 : Nat) : Int) u4) → f' "least" = some (.int ((e5 : Nat) : Int) u5) →
      T B (n + 10) (execs (bodyFrom B.w.params 28) env) ((F, .nf f') :: (e ++ L)) Q) : T B (n + 10) (execs (bodyFrom B.w.params 23) env) ((F, .nf f) :: L) Q := by
  refine T_from rfl (s_meet O E lk_meet lk_left lk_right lk_early (ev_ls (ev_f E lk_drawn hd) (.tail _ hdl) rfl rfl) (ev_ls (ev_f E lk_drawn hd) (.tail _ hdl) rfl rfl) i0 i1 (lt_nodup k0.lt) k0.b (lt_nodup k1.lt) k1.b l10 (by omega) fun g1 q1 u1 e1 L0 R0 a1 b1 c1 P1 ι ι j1 r1 => ?_)
  have s1 : Sub (L) (a1 :: b1 :: c1 :: L) := fun p hp => .tail _ (.tail _ (.tail _ hp))
  have len1 := P1.glen
  have len1' := P1.rlen
  refine T_from rfl (s_meet O E lk_meet lk_box lk_right lk_some (ev_f E lk_right (by kt_len)) (ev_ls (ev_f E lk_drawn (by kt_len)) (.tail _ (s1 _ hdl)) rfl rfl) r1 (i2.mono s1) P1.rn P1.rb (lt_nodup k2.lt) k2.b (by omega) (by omega) fun g2 q2 u2 e2 bx0 R1 a2 b2 c2 P2 ι ι j2 r2 => ?_)
  have s2 : Sub (a1 :: b1 :: c1 :: L) (a2 :: b2 :: c2 :: a1 :: b1 :: c1 :: L) := fun p hp => .tail _ (.tail _ (.tail _ hp))
  have len2 := P2.glen
  have len2' := P2.rlen
  refine T_from rfl (s_meet O E lk_meet lk_other lk_right lk_more (ev_f E lk_right (by kt_len)) (ev_ls (ev_f E lk_drawn (by kt_len)) (.tail _ (s2 _ (s1 _ hdl))) rfl rfl) r2 ((i3.mono s1).mono s2) P2.rn P2.rb (lt_nodup k3.lt) k3.b (by omega) (by omega) fun g3 q3 u3 e3 ot0 R2 a3 b3 c3 P3 ι y3 j3 r3 => ?_)
  have s3 : Sub (a2 :: b2 :: c2 :: a1 :: b1 :: c1 :: L) (a3 :: b3 :: c3 :: a2 :: b2 :: c2 :: a1 :: b1 :: c1 :: L) := fun p hp => .tail _ (.tail _ (.tail _ hp))
  have len3 := P3.glen
  have len3' := P3.rlen
  refine T_from rfl (s_meet O E lk_meet lk_box lk_left lk_less (ev_f E lk_left (by kt_len)) (ev_f E lk_box (by kt_len)) ((j1.mono s2).mono s3) (j2.mono s3) P1.gn P1.gb P2.gn P2.gb (by omega) (by omega) fun g4 q4 u4 e4 bx L1 a4 b4 c4 P4 x4 ι j4 r4 => ?_)
  have s4 : Sub (a3 :: b3 :: c3 :: a2 :: b2 :: c2 :: a1 :: b1 :: c1 :: L) (a4 :: b4 :: c4 :: a3 :: b3 :: c3 :: a2 :: b2 :: c2 :: a1 :: b1 :: c1 :: L) := fun p hp => .tail _ (.tail _ (.tail _ hp))
  have len4 := P4.glen
  have len4' := P4.rlen
  refine T_from rfl (s_meet O E lk_meet lk_other lk_left lk_least (ev_f E lk_left (by kt_len)) (ev_f E lk_other (by kt_len)) r4 (j3.mono s4) P4.rn P4.rb P3.gn P3.gb (by omega) (by omega) fun g5 q5 u5 e5 ot L2 a5 b5 c5 P5 x5 y5 j5 r5 => ?_)
  have s5 : Sub (a4 :: b4 :: c4 :: a3 :: b3 :: c3 :: a2 :: b2 :: c2 :: a1 :: b1 :: c1 :: L) (a5 :: b5 :: c5 :: a4 :: b4 :: c4 :: a3 :: b3 :: c3 :: a2 :: b2 :: c2 :: a1 :: b1 :: c1 :: L) := fun p hp => .tail _ (.tail _ (.tail _ hp))
  exact h _ _ _ _ _ _ _ _ _ _ _ _ _ _ _ _ _ _ _ _ _ _ _ _ _ [a5, b5, c5, a4, b4, c4, a3, b3, c3, a2, b2, c2, a1, b1, c1] P1 P2 P3 P4 P5 (by repeat (first | exact Kept.refl | refine Kept.up (by decide +kernel) ?_))
    (by kt_len) (by kt_len) (by kt_len) (by kt_len) (j4.mono s5) j5 r5 ((r3.mono s4).mono s5) x4 x5 y5 y3 (by kt_len) (by kt_len) (by kt_len) (by kt_len) (by kt_len)
end
section
variable {B : Bg} {n : Nat} {L M : Led} {env cenv : Env} {ks ks' : List (Str × NameKind)} {F C it acc l : Addr} {cl cl' : List (Str × Addr)} {pos pq : Pos} {elt iter : Expr} {scope : Scope} {vs : List Value} {xn : Str} {X : Nat → It} {src : Addr × It}
theorem Tc_two {x1 x2 : Value} {Q : Flow → Led → Prop} (I : Itr B (n + 1) src [x1, x2] X) (E' : EnvIs cenv ks' C cl') (hxn : (xn, NameKind.local) ∈ ks') (hs : src ∈ L)
    (h : T B (n + 1) (eval elt cenv) ((C, .ns [(xn, some x1)]) :: (it, X 1) :: (acc, .ls []) :: L) fun y1 R1 => ∃ L1, Pick ((C, .ns [(xn, some x1)]) :: (it, X 1) :: (acc, .ls []) :: L1) R1 ∧ src ∈ L1 ∧
      T B (n + 1) (eval elt cenv) ((C, .ns [(xn, some x2)]) :: (it, X 2) :: (acc, .ls [y1]) :: L1) fun y2 R2 => ∃ L2, Pick ((C, .ns [(xn, some x2)]) :: (it, X 2) :: (acc, .ls [y1]) :: L2) R2 ∧ src ∈ L2 ∧ Q .next ((C, .ns [(xn, some x2)]) :: (acc, .ls [y1, y2]) :: L2)) :
    Tc B (n + 1) (.compLoop (.ListComp elt [⟨.Name xn pq, iter, [], 0⟩] scope pos) 0 (.ref it) (.ref acc) cenv) ((C, .ns [(xn, none)]) :: (acc, .ls []) :: (it, X 0) :: L) Q := by
  refine Tc_unC (fun ι => rfl) 2 (T_pick (L' := (it, X 0) :: (C, .ns [(xn, none)]) :: (acc, .ls []) :: L) (.cons (.tail (.tail .head)) .refl) (I.nx (.tail _ (.tail _ hs)) rfl ?_))
  refine T_assignName (T_st_local E' hxn (.tail .head) .head (T_mono h fun y1 R1 h => ?_))
  refine h.elim fun L1 h => T_pick h.1 (T_append (.tail (.tail .head)) (Nat.zero_le _) ?_)
  refine T_pick (L' := (it, X 1) :: (C, .ns [(xn, some x1)]) :: (acc, .ls [y1]) :: L1) (.cons (.tail (.tail .head)) (.cons (.tail .head) (.cons .head .refl))) (I.nx (.tail _ (.tail _ h.2.1)) rfl ?_)
  refine T_assignName (T_st_local E' hxn (.tail .head) .head (T_mono h.2.2 fun y2 R2 h => ?_))
  refine h.elim fun L2 h => T_pick h.1 (T_append (.tail (.tail .head)) (szk (k := 1) (by decide)) ?_)
  refine T_pick (L' := (it, X 2) :: (C, .ns [(xn, some x2)]) :: (acc, .ls [y1, y2]) :: L2) (.cons (.tail (.tail .head)) (.cons (.tail .head) (.cons .head .refl))) (I.nd (.tail _ (.tail _ h.2.1)) rfl h.2.2)
theorem T_two {x1 x2 : Value} {f : Str → Option Value} {x : Str} {px p : Pos} {rest : List Stmt} {Q : Flow → Led → Prop} (E : EnvIs env ks F cl) (hx : (x, NameKind.local) ∈ ks) (hl' : (px.line == pos.line) = true) (hn : (scope.names.any fun (n, k) => n == x && (k == .local || k == .cell)) = false) (hcl : closL scope.names cl [] = some cl') (hnd' : (cl'.map (·.1)).Nodup) (hkind : scope.kind = .function) (hnames : (scope.names.all fun x => x.2 != .local || scope.names.lookup x.1 == some .local) = true) (hcell : (scope.names.all fun x => x.2 != .cell) = true)
    (hf : (scope.names.all fun x => x.2 != .free || (ks.lookup x.1).isSome) = true)
    (hks : (ks'.all fun p => (relabL ks scope.names).lookup p.1 == some p.2 && !(p.1 == ("__debug__" : Str)) && !(p.1 == ("__classdict__" : Str))) = true)
    (hxn : (xn, NameKind.local) ∈ ks') (hs : ∀ x, foldedSetIterable iter env x = pure x)
    (h : T B (n + 1) (eval iter env) ((F, .nf f) :: L) fun v L1 => T B (n + 1) (pyIter v) L1 fun itv L2 => ∃ (it : Addr) (X : Nat → It) (src : Addr × It) (L3 : Led), itv = .ref it ∧ Itr B (n + 1) src [x1, x2] X ∧ Pick ((it, X 0) :: (F, .nf f) :: L3) L2 ∧ src ∈ L3 ∧ ∀ acc C cenv, EnvIs cenv ks' C cl' →
      T B (n + 1) (eval elt cenv) ((C, .ns [(xn, some x1)]) :: (it, X 1) :: (acc, .ls []) :: (F, .nf f) :: L3) fun y1 R1 => ∃ L4, Pick ((C, .ns [(xn, some x1)]) :: (it, X 1) :: (acc, .ls []) :: (F, .nf f) :: L4) R1 ∧ src ∈ L4 ∧
        T B (n + 1) (eval elt cenv) ((C, .ns [(xn, some x2)]) :: (it, X 2) :: (acc, .ls [y1]) :: (F, .nf f) :: L4) fun y2 R2 => ∃ L5, Pick ((C, .ns [(xn, some x2)]) :: (it, X 2) :: (acc, .ls [y1]) :: (F, .nf f) :: L5) R2 ∧ src ∈ L5 ∧ T B (n + 1) (execs rest env) ((F, .nf (up f x (.ref acc))) :: (acc, .ls [y1, y2]) :: L5) Q) :
    T B (n + 1) (execs (.Assign [.Name x px] (.ListComp elt [⟨.Name xn pq, iter, [], 0⟩] scope pos) p :: rest) env) ((F, .nf f) :: L) Q := by
  refine T_s_AsComp ks' cl' [(xn, none)] E (swaps_comp E hx hl' hn) hcl hnd' hkind hnames hcell hf hks rfl (of_decide_eq_true rfl) hs (T_mono h fun v L1 h => T_weak (T_mono h fun itv L2 h => ?_))
  refine h.elim fun it h => h.elim fun X h => h.elim fun src h => h.elim fun L3 h => ⟨_, h.2.2.1, fun acc C cenv E' => ⟨h.1 ▸ h.2.1.self (.tail _ (.tail _ (.head _))), ?_⟩⟩
  rw [h.1]
  refine Tc_two h.2.1 E' hxn (.tail _ h.2.2.2.1) (T_mono (h.2.2.2.2 acc C cenv E') fun y1 R1 k => k.elim fun L4 k => ⟨_, k.1, .tail _ k.2.1, T_mono k.2.2 fun y2 R2 k => k.elim fun L5 k => ⟨_, k.1, .tail _ k.2.1, ?_⟩⟩)
  exact T_stf E hx (.tail (.tail .head)) ⟨_, _, .tail .head, List.cons_ne_nil _ _, k.2.2⟩
end
section
variable {B : Bg} {n : Nat} {L L' : Led} {env : Env} {ks : List (Str × NameKind)} {F p hl : Addr} {cl : List (Str × Addr)} {f : Str → Option Value} {pv hv : List Value} {Q : Flow → Led → Prop}
theorem s_push (O : Our B) {w ob : Str} {eit : Expr} {p1 p3 p4 p5 p6 p7 p8 : Pos} {rest : List Stmt} {Z : LexA} {pre a : List Nat} {m : List (Str × Option Value)} (E : EnvIs env ks F cl) (hw : (w, NameKind.local) ∈ ks) (hpp : (p4.endLine == p6.line) = true)
    (hsw : swapsWith (.Call (.Attribute (.Name ob p3) "push_token" p4) [.Name w p5] [] p6) none p7.line env = pure false) (hs : ∀ x, foldedSetIterable eit env x = pure x)
    (hit : Ev B (n + 5) env ((F, .nf f) :: (p, .ls pv) :: L) eit (.ref hl)) (hob : ∀ f' G, Kept [w] f f' → Sub L G → Ev B (n + 5) env ((F, .nf f') :: G) (.Name ob p3) (.ref Z.x))
    (HZ : LexOk B Z) (hx : (Z.x, .ob Z.o) ∈ L) (hd : (Z.dx, dn m) ∈ L) (hm : m.lookup ("pushback" : Str) = some (some (Value.ref p))) (hm2 : (m.lookup ("push_token" : Str)).join = none) (hl' : (hl, It.ls hv) ∈ L) (ha : StrsAre hv (a.map nameOf)) (hp : StrsAre pv (pre.map nameOf)) (hz : pre.length + a.length ≤ 100)
    (h : ∀ f' pv', Kept [w] f f' → StrsAre pv' ((pre ++ a).map nameOf) → T B (n + 5) (execs rest env) ((F, .nf f') :: (p, .ls pv') :: L) Q) :
    T B (n + 5) (execs (.For (.Name w p1) eit [.Expr (.Call (.Attribute (.Name ob p3) "push_token" p4) [.Name w p5] [] p6) p7] [] p8 :: rest) env) ((F, .nf f) :: (p, .ls pv) :: L) Q :=
  s_push' O E hw hpp hsw hs hit hob HZ.inst HZ.ne hx hd hm hm2 hl' ha hp hz h
theorem sub4 {a b c d : Addr × It} {M : Led} (s : Sub L M) : Sub L (a :: b :: c :: d :: M) := fun p hp => .tail _ (.tail _ (.tail _ (.tail _ (s p hp))))
theorem sub6 {a b c d i j : Addr × It} {M : Led} (s : Sub L M) : Sub L (a :: b :: c :: d :: i :: j :: M) := fun p hp => .tail _ (.tail _ (sub4 s p hp))
theorem ev_pass (O : Our B) (W : Bool) {L₁ L₂ : Led} {e1 e2 e3 e4 e5 : Expr} {q0 q4 : Pos} {Z : LexA} {m : List (Str × Option Value)} {bl hd : Addr} {bvs : List Value} {hs bs us : List Nat} {kvs : List (Str × Value)} {Q : Value → Led → Prop} (E : EnvIs env ks F cl) (hN : (("_law_pass" : Str), NameKind.globalImplicit) ∈ ks)
    (h1 : Ev B (n + 10) env L e1 (.ref Z.x)) (h2 : Ev B (n + 10) env L e2 (.ref hl)) (h3 : Ev B (n + 10) env L e3 (.ref bl)) (h4 : Ev B (n + 10) env L e4 (.ref hd)) (h5 : (∀ es, starEach (e5 :: es) env = (false, eval e5 env) :: starEach es env) ∧ ∀ Q : Value → Led → Prop, (∀ u, Q (.int (wheelOf W) u) L) → T B (n + 10) (eval e5 env) L Q)
    (HZ : LexOk B Z) (hm : m.lookup ("pushback" : Str) = some (some (Value.ref p))) (hm1 : (m.lookup ("get_token" : Str)).join = none) (hm2 : (m.lookup ("push_token" : Str)).join = none) (hrp : Rem (p, .ls pv) L L₁) (hrh : Rem (hl, .ls hv) L₁ L₂) (hx : (Z.x, .ob Z.o) ∈ L₂) (hdx : (Z.dx, dn m) ∈ L₂) (hb : (bl, .ls bvs) ∈ L₂) (hk : (hd, dS B kvs) ∈ L₂)
    (hp : StrsAre pv (hs.map nameOf)) (hhv : StrsAre hv (hs.map nameOf)) (hbv : StrsAre bvs (bs.map nameOf)) (hH : HuesD kvs us) (hsu : ∀ y ∈ hs, y ∈ us ∧ y < 16) (hbu : ∀ y ∈ bs, y ∈ us ∧ y < 16) (hle : bs.length ≤ hs.length) (hle2 : hs.length ≤ 20)
    (h : ∀ tp gl tt gvs pvs' hvs' gs tn hs', PassR W hs bs gs tn hs' → StrsAre gvs (gs.map nameOf) → StrsAre pvs' ((hs' ++ bs).map nameOf) → StrsAre hvs' ((hs' ++ bs).map nameOf) →
      Q (.ref tp) ((tp, tup [.ref gl, .int tn tt]) :: (gl, .ls gvs) :: (p, .ls pvs') :: (hl, .ls hvs') :: L₂)) : T B (n + 10) (eval (.Call (.Name "_law_pass" q0) [e1, e2, e3, e4, e5] [] q4) env) L Q :=
  T_Call1 (h1.1 _) (T_nm E hN (nm_glob (gv_pass O) (T_items_cons (h1.1 _) (h1.2 _ (T_items_cons (h2.1 _) (h2.2 _ (T_items_cons (h3.1 _) (h3.2 _ (T_items_cons (h4.1 _) (h4.2 _ (T_items_cons (h5.1 _) (h5.2 _ fun u => T_items_nil
    ⟨kp_185 O, c_pass O W HZ.inst HZ.ne hm hm1 hm2 hrp hrh hx hdx hb hk hp hhv hbv hH hsu hbu hle hle2 h⟩))))))))))))
theorem s_pass2 (O : Our B) (W : Bool) {ks' : List (Str × NameKind)} {cl' : List (Str × Addr)} {scope : Scope} {x xn ob held hu : Str} {px pq pos p9 q0 q1 q2 q3 q4 : Pos} {eb ew iter : Expr} {rest : List Stmt} {x1 x2 : Value} {Z : LexA} {m : List (Str × Option Value)} {b1 b2 hd : Addr} {bv1 bv2 : List Value} {hs bs1 bs2 us : List Nat} {kvs : List (Str × Value)}
    (E : EnvIs env ks F cl) (hx : (x, NameKind.local) ∈ ks) (hl' : (px.line == pos.line) = true) (hn : (scope.names.any fun (n, k) => n == x && (k == .local || k == .cell)) = false) (hcl : closL scope.names cl [] = some cl') (hnd' : decide (cl'.map (·.1)).Nodup = true) (hkind : scope.kind = .function) (hnames : (scope.names.all fun x => x.2 != .local || scope.names.lookup x.1 == some .local) = true) (hcell : (scope.names.all fun x => x.2 != .cell) = true)
    (hf : (scope.names.all fun x => x.2 != .free || (ks.lookup x.1).isSome) = true)
    (hks : (ks'.all fun p => (relabL ks scope.names).lookup p.1 == some p.2 && !(p.1 == ("__debug__" : Str)) && !(p.1 == ("__classdict__" : Str))) = true)
    (hxn : (xn, NameKind.local) ∈ ks') (hsf : ∀ x, foldedSetIterable iter env x = pure x) (hN : (("_law_pass" : Str), NameKind.globalImplicit) ∈ ks')
    (hi : ∀ (Q : Value → Led → Prop), (∀ it X src e, Itr B (n + 10) src [x1, x2] X → src ∈ e ++ L → Q (.ref it) ((it, X 0) :: (F, .nf f) :: (p, .ls pv) :: (hl, .ls hv) :: (e ++ L))) → T B (n + 10) (eval iter env) ((F, .nf f) :: (p, .ls pv) :: (hl, .ls hv) :: L) fun v L1 => T B (n + 10) (pyIter v) L1 Q)
    (hev : ∀ C cenv G, EnvIs cenv ks' C cl' → Sub L G → Ev B (n + 10) cenv G (.Name ob q1) (.ref Z.x) ∧ Ev B (n + 10) cenv G (.Name held q2) (.ref hl) ∧ Ev B (n + 10) cenv G (.Name hu q3) (.ref hd) ∧ ((C, It.ns [(xn, some x1)]) ∈ G → Ev B (n + 10) cenv G eb (.ref b1)) ∧ ((C, It.ns [(xn, some x2)]) ∈ G → Ev B (n + 10) cenv G eb (.ref b2)))
    (h5 : ∀ cenv G, (∀ es, starEach (ew :: es) cenv = (false, eval ew cenv) :: starEach es cenv) ∧ ∀ Q : Value → Led → Prop, (∀ u, Q (.int (wheelOf W) u) G) → T B (n + 10) (eval ew cenv) G Q)
    (HZ : LexOk B Z) (hm : m.lookup ("pushback" : Str) = some (some (Value.ref p))) (hm1 : (m.lookup ("get_token" : Str)).join = none) (hm2 : (m.lookup ("push_token" : Str)).join = none) (hzx : (Z.x, .ob Z.o) ∈ L) (hdx : (Z.dx, dn m) ∈ L) (hb1 : (b1, .ls bv1) ∈ L) (hb2 : (b2, .ls bv2) ∈ L) (hk : (hd, dS B kvs) ∈ L)
    (hp : StrsAre pv (hs.map nameOf)) (hhv : StrsAre hv (hs.map nameOf)) (hbv1 : StrsAre bv1 (bs1.map nameOf)) (hbv2 : StrsAre bv2 (bs2.map nameOf)) (hH : HuesD kvs us) (hsu : ∀ y ∈ hs, y ∈ us ∧ y < 16) (hbu1 : ∀ y ∈ bs1, y ∈ us ∧ y < 16) (hbu2 : ∀ y ∈ bs2, y ∈ us ∧ y < 16) (hle1 : bs1.length ≤ hs.length) (hle2 : bs2.length ≤ hs.length) (hle : hs.length ≤ 20)
    (h : ∀ acc t1 t2 g1 g2 n1 n2 u1 u2 v1 v2 pv' hv' gs1 gs2 xs1 xs2 e, PassR W hs bs1 gs1 n1 xs1 → PassR W (xs1 ++ bs1) bs2 gs2 n2 xs2 → StrsAre v1 (gs1.map nameOf) → StrsAre v2 (gs2.map nameOf) → StrsAre pv' ((xs2 ++ bs2).map nameOf) → StrsAre hv' ((xs2 ++ bs2).map nameOf) →
      (acc, .ls [.ref t1, .ref t2]) ∈ e → (t1, tup [.ref g1, .int n1 u1]) ∈ e → (t2, tup [.ref g2, .int n2 u2]) ∈ e → (g1, .ls v1) ∈ e → (g2, .ls v2) ∈ e → T B (n + 10) (execs rest env) ((F, .nf (up f x (.ref acc))) :: (p, .ls pv') :: (hl, .ls hv') :: (e ++ L)) Q) :
    T B (n + 10) (execs (.Assign [.Name x px] (.ListComp (.Call (.Name "_law_pass" q0) [.Name ob q1, .Name held q2, eb, .Name hu q3, ew] [] q4) [⟨.Name xn pq, iter, [], 0⟩] scope pos) p9 :: rest) env) ((F, .nf f) :: (p, .ls pv) :: (hl, .ls hv) :: L) Q := by
  refine T_two E hx hl' hn hcl (of_decide_eq_true hnd') hkind hnames hcell hf hks hxn hsf (hi _ fun it X src e I hsrc => ⟨it, X, src, _, rfl, I, .refl, .tail _ (.tail _ hsrc), fun acc C cenv E' => ?_⟩)
  have se : Sub L (e ++ L) := fun p hp => List.mem_append_right _ hp
  have k1 := hev C cenv ((C, .ns [(xn, some x1)]) :: (it, X 1) :: (acc, .ls []) :: (F, .nf f) :: (p, .ls pv) :: (hl, .ls hv) :: (e ++ L)) E' (sub6 se)
  refine ev_pass (m := m) O W E' hN k1.1 k1.2.1 (k1.2.2.2.1 (.head _)) k1.2.2.1 (h5 _ _) HZ hm hm1 hm2 R4 R4 ?_ ?_ ?_ ?_ hp hhv hbv1 hH hsu hbu1 hle1 hle fun t1 g1 u1 v1 pv1 hv1 gs1 n1 xs1 P1 a1 a2 a3 => ?_
  iterate 4 exact sub4 se _ (by assumption)
  have se2 : Sub L ((t1, tup [.ref g1, .int n1 u1]) :: (g1, .ls v1) :: (e ++ L)) := fun p hp => .tail _ (.tail _ (se p hp))
  refine ⟨(p, .ls pv1) :: (hl, .ls hv1) :: (t1, tup [.ref g1, .int n1 u1]) :: (g1, .ls v1) :: (e ++ L), .cons R4 (.cons R4 (.cons R4 (.cons R4 (.cons (.tail (.tail .head)) (.cons (.tail (.tail .head)) .refl))))), .tail _ (.tail _ (.tail _ (.tail _ hsrc))), ?_⟩
  have k2 := hev C cenv ((C, .ns [(xn, some x2)]) :: (it, X 2) :: (acc, .ls [.ref t1]) :: (F, .nf f) :: (p, .ls pv1) :: (hl, .ls hv1) :: (t1, tup [.ref g1, .int n1 u1]) :: (g1, .ls v1) :: (e ++ L)) E' (sub6 se2)
  have al := P1.all hsu hbu1
  refine ev_pass (m := m) O W E' hN k2.1 k2.2.1 (k2.2.2.2.2 (.head _)) k2.2.2.1 (h5 _ _) HZ hm hm1 hm2 R4 R4 ?_ ?_ ?_ ?_ a2 a3 hbv2 hH al.2 hbu2 (P1.len ▸ hle2) (P1.len ▸ hle) fun t2 g2 u2 v2 pv2 hv2 gs2 n2 xs2 P2 b1 b2 b3 => ?_
  iterate 4 exact sub4 se2 _ (by assumption)
  refine ⟨(p, .ls pv2) :: (hl, .ls hv2) :: (t2, tup [.ref g2, .int n2 u2]) :: (g2, .ls v2) :: (t1, tup [.ref g1, .int n1 u1]) :: (g1, .ls v1) :: (e ++ L), .cons R4 (.cons R4 (.cons R4 (.cons R4 (.cons (.tail (.tail .head)) (.cons (.tail (.tail .head)) .refl))))), .tail _ (.tail _ (.tail _ (.tail _ (.tail _ (.tail _ hsrc))))), ?_⟩
  refine T_pick (L' := (F, .nf (up f x (.ref acc))) :: (p, .ls pv2) :: (hl, .ls hv2) :: (((acc, .ls [.ref t1, .ref t2]) :: (t2, tup [.ref g2, .int n2 u2]) :: (g2, .ls v2) :: (t1, tup [.ref g1, .int n1 u1]) :: (g1, .ls v1) :: e) ++ L)) (.cons .head (.cons (.tail .head) (.cons (.tail .head) .refl))) ?_
  exact h acc t1 t2 g1 g2 n1 n2 u1 u2 v1 v2 pv2 hv2 gs1 gs2 xs1 xs2 _ P1 P2 a1 b1 b2 b3 (.head _) (.tail _ (.tail _ (.tail _ (.head _)))) (.tail _ (.head _)) (.tail _ (.tail _ (.tail _ (.tail _ (.head _))))) (.tail _ (.tail _ (.head _)))
end
section
variable {B : Bg} {n : Nat} {L : Led} {env : Env} {F : Addr} {c : Nat → Addr} {f : Str → Option Value} {Q : Flow → Led → Prop}
set_option maxHeartbeats 4000000
theorem lk_word : (("word" : Str), NameKind.local) ∈ lawKs := by tb_rel
theorem lk_third : (("third" : Str), NameKind.local) ∈ lawKs := by tb_rel
theorem lk_end : (("end" : Str), NameKind.local) ∈ lawKs := by tb_rel
theorem lk_fourth : (("fourth" : Str), NameKind.local) ∈ lawKs := by tb_rel
theorem lk_pass : (("_law_pass" : Str), NameKind.globalImplicit) ∈ lawKs := by tb_rel
theorem lk_lexer : (("lexer" : Str), NameKind.cell) ∈ lawKs := by tb_rel
theorem lk_line : (("line" : Str), NameKind.cell) ∈ lawKs := by tb_rel
theorem lk_front : (("front" : Str), NameKind.cell) ∈ lawKs := by tb_rel
theorem lk_met : (("met" : Str), NameKind.cell) ∈ lawKs := by tb_rel
theorem lk_hues : (("hues" : Str), NameKind.cell) ∈ lawKs := by tb_rel
theorem lc_lexer : (("lexer" : Str), c 3) ∈ lawCl c := by tb_rel
theorem lc_line : (("line" : Str), c 4) ∈ lawCl c := by tb_rel
theorem lc_front : (("front" : Str), c 6) ∈ lawCl c := by tb_rel
theorem lc_met : (("met" : Str), c 8) ∈ lawCl c := by tb_rel
theorem lc_hues : (("hues" : Str), c 5) ∈ lawCl c := by tb_rel
theorem s32 (O : Our B) (E : EnvIs env lawKs F (lawCl c)) {Z : LexA} {pv hv : List Value} {hl : Addr} {m : List (Str × Option Value)} {pre a : List Nat} (k3 : (c 3, It.ce (some (.ref Z.x))) ∈ L) (k6 : (c 6, It.ce (some (.ref hl))) ∈ L)
    (HZ : LexOk B Z) (hx : (Z.x, .ob Z.o) ∈ L) (hd : (Z.dx, dn m) ∈ L) (hm : m.lookup ("pushback" : Str) = some (some (Value.ref Z.p))) (hm2 : (m.lookup ("push_token" : Str)).join = none) (hl' : (hl, It.ls hv) ∈ L) (ha : StrsAre hv (a.map nameOf)) (hp : StrsAre pv (pre.map nameOf)) (hz : pre.length + a.length ≤ 100)
    (h : ∀ f' pv', Kept ["word"] f f' → StrsAre pv' ((pre ++ a).map nameOf) → T B (n + 10) (execs (bodyFrom B.w.params 33) env) ((F, .nf f') :: (Z.p, .ls pv') :: L) Q) : T B (n + 10) (execs (bodyFrom B.w.params 32) env) ((F, .nf f) :: (Z.p, .ls pv) :: L) Q :=
  T_from rfl (s_push (n := n + 5) O E lk_word rfl rfl (fun ι => rfl) (ev_c E lk_front lc_front (.tail _ (.tail _ k6))) (fun f' G ι s => ev_c E lk_lexer lc_lexer (.tail _ (s _ k3))) HZ hx hd hm hm2 hl' ha hp hz h)
theorem rem_app2 {p q : Addr × It} {e L : Led} : Rem p (e ++ q :: p :: L) (e ++ q :: L) := by
  have := @rem_app p (e ++ [q]) L
  rwa [List.append_assoc, List.append_assoc] at this
theorem pick_app2 {q : Addr × It} {e L : Led} : Pick L (e ++ q :: L) := by
  have := @pick_app (e ++ [q]) L
  rwa [List.append_assoc] at this
theorem pick_app3 {q : Addr × It} {e L : Led} : Pick (e ++ L) (e ++ q :: L) := by
  induction e with
  | nil => exact .skip .refl
  | cons a e ih => exact .cons .head ih
theorem ev_m16 {env : Env} {k : Nat} {q1 q2 : Pos} (L : Led) : (∀ es, starEach (.UnaryOp .USub (.Constant (.int 16) k q1) q2 :: es) env = (false, eval (.UnaryOp .USub (.Constant (.int 16) k q1) q2) env) :: starEach es env) ∧ ∀ Q : Value → Led → Prop, (∀ u, Q (.int (wheelOf true) u) L) → T B (n + 10) (eval (.UnaryOp .USub (.Constant (.int 16) k q1) q2) env) L Q :=
  ⟨fun ι => rfl, fun Q h => by
    repeat nest_cls
    exact h _⟩
theorem s34 (O : Our B) (E : EnvIs env lawKs F (lawCl c)) {Z : LexA} {pv hv v3 v4 : List Value} {hl hd el g3 g4 : Addr} {y3 y4 : Value} {m : List (Str × Option Value)} {kvs : List (Str × Value)} {hs b3 b4 us : List Nat} (k4 : (c 4, It.ce (some (.ref Z.x))) ∈ L) (k5 : (c 5, It.ce (some (.ref hd))) ∈ L) (k8 : (c 8, It.ce (some (.ref hl))) ∈ L)
    (he : f "end" = some (.ref el)) (hel : (el, It.ls [.ref g3, .ref g4, y3, y4]) ∈ L) (hg3 : (g3, It.ls v3) ∈ L) (hg4 : (g4, It.ls v4) ∈ L) (hk : (hd, dS B kvs) ∈ L)
    (HZ : LexOk B Z) (hx : (Z.x, .ob Z.o) ∈ L) (hdx : (Z.dx, dn m) ∈ L) (hm : m.lookup ("pushback" : Str) = some (some (Value.ref Z.p))) (hm1 : (m.lookup ("get_token" : Str)).join = none) (hm2 : (m.lookup ("push_token" : Str)).join = none)
    (hp : StrsAre pv (hs.map nameOf)) (hhv : StrsAre hv (hs.map nameOf)) (n3 : StrsAre v3 (b3.map nameOf)) (n4 : StrsAre v4 (b4.map nameOf)) (hH : HuesD kvs us) (hsu : ∀ y ∈ hs, y ∈ us ∧ y < 16) (u3 : ∀ y ∈ b3, y ∈ us ∧ y < 16) (u4 : ∀ y ∈ b4, y ∈ us ∧ y < 16) (l3 : b3.length ≤ hs.length) (l4 : b4.length ≤ hs.length) (hle : hs.length ≤ 20)
    (h : ∀ acc t1 t2 g1 g2 n1 n2 u1 u2 v1 v2 pv' hv' gs1 gs2 xs1 xs2 e, PassR true hs b4 gs1 n1 xs1 → PassR true (xs1 ++ b4) b3 gs2 n2 xs2 → StrsAre v1 (gs1.map nameOf) → StrsAre v2 (gs2.map nameOf) → StrsAre pv' ((xs2 ++ b3).map nameOf) → StrsAre hv' ((xs2 ++ b3).map nameOf) →
      (acc, .ls [.ref t1, .ref t2]) ∈ e → (t1, tup [.ref g1, .int n1 u1]) ∈ e → (t2, tup [.ref g2, .int n2 u2]) ∈ e → (g1, .ls v1) ∈ e → (g2, .ls v2) ∈ e → T B (n + 10) (execs (bodyFrom B.w.params 35) env) ((F, .nf (up f "third" (.ref acc))) :: (Z.p, .ls pv') :: (hl, .ls hv') :: (e ++ L)) Q) :
    T B (n + 10) (execs (bodyFrom B.w.params 34) env) ((F, .nf f) :: (Z.p, .ls pv) :: (hl, .ls hv) :: L) Q := by
  refine T_from rfl (s_pass2 O true (ks' := [("one", .local), ("_law_pass", .globalImplicit), ("line", .cell), ("met", .cell), ("hues", .cell)]) (cl' := [("met", c 8), ("line", c 4), ("hues", c 5)]) (x1 := .ref g4) (x2 := .ref g3) (b1 := g4) (b2 := g3) E lk_third rfl rfl (by kst_allIn) rfl rfl rfl rfl (by kst_allIn) (by kst_allIn) (.head _) (fun ι => rfl) (.tail _ (.head _)) ?hi ?hev (fun ι G => ev_m16 G) HZ hm hm1 hm2 hx hdx hg4 hg3 hk hp hhv n4 n3 hH hsu u4 u3 l4 l3 hle h)
  case hi =>
    intro Q h
    refine T_Tuple (T_items_cons rfl ((ev_ls (ev_f E lk_end he) (.tail _ (.tail _ (.tail _ hel))) rfl rfl).2 _ (T_items_cons rfl ((ev_ls (ev_f E lk_end he) (.tail _ (.tail _ (.tail _ hel))) rfl rfl).2 _ (T_items_nil ⟨szk (k := 2) (by decide), fun t => T_weak (T_iter_tup (.head _) fun it => ⟨_, .cons .head (.cons (.tail .head) (.cons (.tail .head) (.cons (.tail .head) .refl))), h it (tpIter t) (t, tup [.ref g4, .ref g3]) [(t, tup [.ref g4, .ref g3])] itr_tup (.head _)⟩)⟩)))))
  case hev =>
    intro C cenv G E' s
    exact ⟨ev_c E' (by tb_rel) (by tb_rel) (s _ k4), ev_c E' (by tb_rel) (by tb_rel) (s _ k8), ev_c E' (by tb_rel) (by tb_rel) (s _ k5), fun hC => ⟨fun ι => rfl, fun Q h => T_nm E' (.head _) (nm_local hC (.head _) h)⟩, fun hC => ⟨fun ι => rfl, fun Q h => T_nm E' (.head _) (nm_local hC (.head _) h)⟩⟩
theorem s35 (O : Our B) (E : EnvIs env lawKs F (lawCl c)) {Z : LexA} {pv hv v3 v4 : List Value} {hl hd el a3 a4 g3 g4 : Addr} {y3 y4 : Value} {m : List (Str × Option Value)} {kvs : List (Str × Value)} {hs b3 b4 us : List Nat} (k3 : (c 3, It.ce (some (.ref Z.x))) ∈ L) (k5 : (c 5, It.ce (some (.ref hd))) ∈ L) (k6 : (c 6, It.ce (some (.ref hl))) ∈ L)
    (he : f "third" = some (.ref el)) (hel : (el, It.ls [.ref a3, .ref a4]) ∈ L) (ha3 : (a3, tup [.ref g3, y3]) ∈ L) (ha4 : (a4, tup [.ref g4, y4]) ∈ L) (hg3 : (g3, It.ls v3) ∈ L) (hg4 : (g4, It.ls v4) ∈ L) (hk : (hd, dS B kvs) ∈ L)
    (HZ : LexOk B Z) (hx : (Z.x, .ob Z.o) ∈ L) (hdx : (Z.dx, dn m) ∈ L) (hm : m.lookup ("pushback" : Str) = some (some (Value.ref Z.p))) (hm1 : (m.lookup ("get_token" : Str)).join = none) (hm2 : (m.lookup ("push_token" : Str)).join = none)
    (hp : StrsAre pv (hs.map nameOf)) (hhv : StrsAre hv (hs.map nameOf)) (n3 : StrsAre v3 (b3.map nameOf)) (n4 : StrsAre v4 (b4.map nameOf)) (hH : HuesD kvs us) (hsu : ∀ y ∈ hs, y ∈ us ∧ y < 16) (u3 : ∀ y ∈ b3, y ∈ us ∧ y < 16) (u4 : ∀ y ∈ b4, y ∈ us ∧ y < 16) (l3 : b3.length ≤ hs.length) (l4 : b4.length ≤ hs.length) (hle : hs.length ≤ 20)
    (h : ∀ acc t1 t2 g1 g2 n1 n2 u1 u2 v1 v2 pv' hv' gs1 gs2 xs1 xs2 e, PassR true hs b3 gs1 n1 xs1 → PassR true (xs1 ++ b3) b4 gs2 n2 xs2 → StrsAre v1 (gs1.map nameOf) → StrsAre v2 (gs2.map nameOf) → StrsAre pv' ((xs2 ++ b4).map nameOf) → StrsAre hv' ((xs2 ++ b4).map nameOf) →
      (acc, .ls [.ref t1, .ref t2]) ∈ e → (t1, tup [.ref g1, .int n1 u1]) ∈ e → (t2, tup [.ref g2, .int n2 u2]) ∈ e → (g1, .ls v1) ∈ e → (g2, .ls v2) ∈ e → T B (n + 10) (execs (bodyFrom B.w.params 36) env) ((F, .nf (up f "fourth" (.ref acc))) :: (Z.p, .ls pv') :: (hl, .ls hv') :: (e ++ L)) Q) :
    T B (n + 10) (execs (bodyFrom B.w.params 35) env) ((F, .nf f) :: (Z.p, .ls pv) :: (hl, .ls hv) :: L) Q := by
  refine T_from rfl (s_pass2 O true (ks' := [("one", .local), ("_law_pass", .globalImplicit), ("lexer", .cell), ("front", .cell), ("hues", .cell)]) (cl' := [("lexer", c 3), ("hues", c 5), ("front", c 6)]) (x1 := .ref a3) (x2 := .ref a4) (b1 := g3) (b2 := g4) E lk_fourth rfl rfl (by kst_allIn) rfl rfl rfl rfl (by kst_allIn) (by kst_allIn) (.head _) (fun ι => rfl) (.tail _ (.head _)) ?hi ?hev (fun ι G => ev_m16 G) HZ hm hm1 hm2 hx hdx hg3 hg4 hk hp hhv n3 n4 hH hsu u3 u4 l3 l4 hle h)
  case hi => exact fun Q h => (ev_f E lk_third he).2 _ (T_iter_ls (.tail _ (.tail _ (.tail _ hel))) fun it => h it _ _ [] itr_ls hel)
  case hev =>
    intro C cenv G E' s
    exact ⟨ev_c E' (by tb_rel) (by tb_rel) (s _ k3), ev_c E' (by tb_rel) (by tb_rel) (s _ k6), ev_c E' (by tb_rel) (by tb_rel) (s _ k5), fun hC => ev_tup ⟨fun ι => rfl, fun Q h => T_nm E' (.head _) (nm_local hC (.head _) h)⟩ (s _ ha3) rfl rfl, fun hC => ev_tup ⟨fun ι => rfl, fun Q h => T_nm E' (.head _) (nm_local hC (.head _) h)⟩ (s _ ha4) rfl rfl⟩
theorem ev_p16 {env : Env} {k : Nat} {q1 : Pos} (L : Led) : (∀ es, starEach (.Constant (.int 16) k q1 :: es) env = (false, eval (.Constant (.int 16) k q1) env) :: starEach es env) ∧ ∀ Q : Value → Led → Prop, (∀ u, Q (.int (wheelOf false) u) L) → T B (n + 10) (eval (.Constant (.int 16) k q1) env) L Q :=
  ⟨fun ι => rfl, fun Q h => T_c_int h⟩
theorem lk_first : (("first" : Str), NameKind.local) ∈ lawKs := by tb_rel
theorem lk_second : (("second" : Str), NameKind.local) ∈ lawKs := by tb_rel
theorem lk_last : (("last" : Str), NameKind.local) ∈ lawKs := by tb_rel
theorem lk_rows : (("rows" : Str), NameKind.local) ∈ lawKs := by tb_rel
theorem lk_rear : (("rear" : Str), NameKind.cell) ∈ lawKs := by tb_rel
theorem lc_rear : (("rear" : Str), c 7) ∈ lawCl c := by tb_rel
theorem s20 (O : Our B) (E : EnvIs env lawKs F (lawCl c)) {Z : LexA} {pv hv v3 v4 : List Value} {hl hd el a3 a4 g3 g4 : Addr} {y3 y4 : Value} {m : List (Str × Option Value)} {kvs : List (Str × Value)} {hs b3 b4 us : List Nat} (k3 : (c 3, It.ce (some (.ref Z.x))) ∈ L) (k5 : (c 5, It.ce (some (.ref hd))) ∈ L) (k6 : (c 6, It.ce (some (.ref hl))) ∈ L)
    (he : f "first" = some (.ref el)) (hel : (el, It.ls [.ref a3, .ref a4]) ∈ L) (ha3 : (a3, tup [.ref g3, y3]) ∈ L) (ha4 : (a4, tup [.ref g4, y4]) ∈ L) (hg3 : (g3, It.ls v3) ∈ L) (hg4 : (g4, It.ls v4) ∈ L) (hk : (hd, dS B kvs) ∈ L)
    (HZ : LexOk B Z) (hx : (Z.x, .ob Z.o) ∈ L) (hdx : (Z.dx, dn m) ∈ L) (hm : m.lookup ("pushback" : Str) = some (some (Value.ref Z.p))) (hm1 : (m.lookup ("get_token" : Str)).join = none) (hm2 : (m.lookup ("push_token" : Str)).join = none)
    (hp : StrsAre pv (hs.map nameOf)) (hhv : StrsAre hv (hs.map nameOf)) (n3 : StrsAre v3 (b3.map nameOf)) (n4 : StrsAre v4 (b4.map nameOf)) (hH : HuesD kvs us) (hsu : ∀ y ∈ hs, y ∈ us ∧ y < 16) (u3 : ∀ y ∈ b3, y ∈ us ∧ y < 16) (u4 : ∀ y ∈ b4, y ∈ us ∧ y < 16) (l3 : b3.length ≤ hs.length) (l4 : b4.length ≤ hs.length) (hle : hs.length ≤ 20)
    (h : ∀ acc t1 t2 g1 g2 n1 n2 u1 u2 v1 v2 pv' hv' gs1 gs2 xs1 xs2 e, PassR false hs b3 gs1 n1 xs1 → PassR false (xs1 ++ b3) b4 gs2 n2 xs2 → StrsAre v1 (gs1.map nameOf) → StrsAre v2 (gs2.map nameOf) → StrsAre pv' ((xs2 ++ b4).map nameOf) → StrsAre hv' ((xs2 ++ b4).map nameOf) →
      (acc, .ls [.ref t1, .ref t2]) ∈ e → (t1, tup [.ref g1, .int n1 u1]) ∈ e → (t2, tup [.ref g2, .int n2 u2]) ∈ e → (g1, .ls v1) ∈ e → (g2, .ls v2) ∈ e → T B (n + 10) (execs (bodyFrom B.w.params 21) env) ((F, .nf (up f "second" (.ref acc))) :: (Z.p, .ls pv') :: (hl, .ls hv') :: (e ++ L)) Q) :
    T B (n + 10) (execs (bodyFrom B.w.params 20) env) ((F, .nf f) :: (Z.p, .ls pv) :: (hl, .ls hv) :: L) Q := by
  refine T_from rfl (s_pass2 O false (ks' := [("one", .local), ("_law_pass", .globalImplicit), ("lexer", .cell), ("front", .cell), ("hues", .cell)]) (cl' := [("lexer", c 3), ("hues", c 5), ("front", c 6)]) (x1 := .ref a3) (x2 := .ref a4) (b1 := g3) (b2 := g4) E lk_second rfl rfl (by kst_allIn) rfl rfl rfl rfl (by kst_allIn) (by kst_allIn) (.head _) (fun ι => rfl) (.tail _ (.head _)) ?hi ?hev (fun ι G => ev_p16 G) HZ hm hm1 hm2 hx hdx hg3 hg4 hk hp hhv n3 n4 hH hsu u3 u4 l3 l4 hle h)
  case hi => exact fun Q h => (ev_f E lk_first he).2 _ (T_iter_ls (.tail _ (.tail _ (.tail _ hel))) fun it => h it _ _ [] itr_ls hel)
  case hev =>
    intro C cenv G E' s
    exact ⟨ev_c E' (by tb_rel) (by tb_rel) (s _ k3), ev_c E' (by tb_rel) (by tb_rel) (s _ k6), ev_c E' (by tb_rel) (by tb_rel) (s _ k5), fun hC => ev_tup ⟨fun ι => rfl, fun Q h => T_nm E' (.head _) (nm_local hC (.head _) h)⟩ (s _ ha3) rfl rfl, fun hC => ev_tup ⟨fun ι => rfl, fun Q h => T_nm E' (.head _) (nm_local hC (.head _) h)⟩ (s _ ha4) rfl rfl⟩
theorem s36 (O : Our B) (E : EnvIs env lawKs F (lawCl c)) {Z : LexA} {pv hv bv : List Value} {hl hd bl : Addr} {m : List (Str × Option Value)} {kvs : List (Str × Value)} {hs bs us : List Nat} (k3 : (c 3, It.ce (some (.ref Z.x))) ∈ L) (k5 : (c 5, It.ce (some (.ref hd))) ∈ L) (k6 : (c 6, It.ce (some (.ref hl))) ∈ L) (k8 : (c 8, It.ce (some (.ref bl))) ∈ L) (hbl : (bl, It.ls bv) ∈ L) (hk : (hd, dS B kvs) ∈ L)
    (HZ : LexOk B Z) (hx : (Z.x, .ob Z.o) ∈ L) (hdx : (Z.dx, dn m) ∈ L) (hm : m.lookup ("pushback" : Str) = some (some (Value.ref Z.p))) (hm1 : (m.lookup ("get_token" : Str)).join = none) (hm2 : (m.lookup ("push_token" : Str)).join = none)
    (hp : StrsAre pv (hs.map nameOf)) (hhv : StrsAre hv (hs.map nameOf)) (hb : StrsAre bv (bs.map nameOf)) (hH : HuesD kvs us) (hsu : ∀ y ∈ hs, y ∈ us ∧ y < 16) (hbu : ∀ y ∈ bs, y ∈ us ∧ y < 16) (hle1 : bs.length ≤ hs.length) (hle : hs.length ≤ 20)
    (h : ∀ tp gl u gv pv' hv' gs tn xs, PassR true hs bs gs tn xs → StrsAre gv (gs.map nameOf) → StrsAre pv' ((xs ++ bs).map nameOf) → StrsAre hv' ((xs ++ bs).map nameOf) → T B (n + 10) (execs (bodyFrom B.w.params 37) env) ((F, .nf (up (up f "last" (.ref gl)) "again" (.int tn u))) :: (Z.p, .ls pv') :: (hl, .ls hv') :: ([(tp, tup [.ref gl, .int tn u]), (gl, .ls gv)] ++ L)) Q) :
    T B (n + 10) (execs (bodyFrom B.w.params 36) env) ((F, .nf f) :: (Z.p, .ls pv) :: (hl, .ls hv) :: L) Q := by
  refine T_from rfl ?_
  refine T_s_AsTup rfl rfl (ev_pass (m := m) O true E lk_pass (ev_c E lk_lexer lc_lexer (.tail _ (.tail _ (.tail _ k3)))) (ev_c E lk_front lc_front (.tail _ (.tail _ (.tail _ k6)))) (ev_c E lk_met lc_met (.tail _ (.tail _ (.tail _ k8)))) (ev_c E lk_hues lc_hues (.tail _ (.tail _ (.tail _ k5)))) (ev_m16 _) HZ hm hm1 hm2 R1 R1 (.tail _ hx) (.tail _ hdx) (.tail _ hbl) (.tail _ hk) hp hhv hb hH hsu hbu hle1 hle fun tp gl u gv pv' hv' gs tn xs P q1 q2 q3 => ?_)
  repeat nest_cls
  exact T_pick (.cons .head (.cons (.tail (.tail .head)) (.cons (.tail (.tail .head)) .refl))) (h _ _ _ _ _ _ _ _ _ P q1 q2 q3)
theorem s37 (E : EnvIs env lawKs F (lawCl c)) {a3 a4 t1 t2 t3 t4 : Addr} {g1 g2 g3 g4 : Value} {le ls mo sm ea : Nat} {u1 u2 u3 u4 u5 w1 w2 w3 w4 w5 : Tok} (h3 : f "third" = some (.ref a3)) (h4 : f "fourth" = some (.ref a4)) (ha : f "again" = some (.int ((ea : Nat) : Int) u5))
    (m3 : (a3, It.ls [.ref t1, .ref t2]) ∈ L) (m4 : (a4, It.ls [.ref t3, .ref t4]) ∈ L) (n1 : (t1, tup [g1, .int ((le : Nat) : Int) u1]) ∈ L) (n2 : (t2, tup [g2, .int ((ls : Nat) : Int) u2]) ∈ L) (n3 : (t3, tup [g3, .int ((mo : Nat) : Int) u3]) ∈ L) (n4 : (t4, tup [g4, .int ((sm : Nat) : Int) u4]) ∈ L)
    (e1 : f "least" = some (.int ((le : Nat) : Int) w1)) (e2 : f "less" = some (.int ((ls : Nat) : Int) w2)) (e3 : f "more" = some (.int ((mo : Nat) : Int) w3)) (e4 : f "some" = some (.int ((sm : Nat) : Int) w4)) (e5 : f "early" = some (.int ((ea : Nat) : Int) w5))
    (h : T B (n + 10) (execs (bodyFrom B.w.params 38) env) ((F, .nf f) :: L) Q) : T B (n + 10) (execs (bodyFrom B.w.params 37) env) ((F, .nf f) :: L) Q := by
  refine T_from rfl ?_
  repeat nest_cls
  refine T_ListComp [("one", .local)] [] [("one", none)] E (by kst_allIn) (of_decide_eq_true rfl) rfl rfl rfl (by kst_allIn) (by kst_allIn) rfl rfl (fun ι => rfl) ?_
  repeat nest_cls
  refine T_addList (vs := [.ref t1, .ref t2]) (ws := [.ref t3, .ref t4]) (.tail _ m3) (.tail _ m4) (szk (Nat.le_of_ble_eq_true rfl)) fun al => ?_
  refine T_iter_ls (.head _) fun it acc C cenv E' => ⟨self_ls (.tail _ (.tail _ (.head _))), ?_⟩
  refine Tc_map (xs := [le, ls, mo, sm]) (V := fun a x => ∃ t g u, x = .ref t ∧ (t, tup [g, .int ((a : Nat) : Int) u]) ∈ L) (W := fun (ι : Led) (a : Nat) (y : Value) => ∃ u, y = .int ((a : Nat) : Int) u) (M := L) E' (.head _) itr_ls (.head _) (.cons ⟨_, _, _, rfl, n1⟩ (.cons ⟨_, _, _, rfl, n2⟩ (.cons ⟨_, _, _, rfl, n3⟩ (.cons ⟨_, _, _, rfl, n4⟩ .nil)))) (by decide : 4 ≤ 1000) (fun ι h => h) ?turn ?fin
  case turn =>
    rintro a _ G _ ⟨t, g, u, rfl, ht⟩ hC s
    exact (ev_tup ⟨fun ι => rfl, fun Q h => T_nm E' (.head _) (nm_local hC (.head _) h)⟩ (s _ (.tail _ (.tail _ ht))) rfl rfl).2 _ ⟨[], rfl, u, rfl⟩
  case fin =>
    intro o ys e h3
    have h3' := h3.ints
    refine ⟨_, _, .head, List.cons_ne_nil _ _, T_pick (L' := (F, .nf f) :: (acc, .ls ys) :: L) (.cons (.tail (rem_app2)) (.cons .head pick_app2)) ?_⟩
    repeat nest_cls
    refine T_addList (.tail _ (.tail _ (.head _))) (.head _) (by rw [h3.len]; exact szk (k := 5) (by decide)) fun al2 => ?_
    repeat nest_cls
    refine T_neInts (xs := [(le : Int), (ls : Int), (mo : Int), (sm : Int), (ea : Int)]) (by tb_rel) (intsAre_append h3' (.cons _ _ .nil)) (by tb_rel) (.cons _ _ (.cons _ _ (.cons _ _ (.cons _ _ (.cons _ _ .nil))))) (Nat.le_add_left 1 _) ?_
    repeat nest_cls
    exact T_pick (by kct_strs) h
end
section
variable {B : Bg} {n : Nat} {L : Led} {env : Env} {F : Addr} {c : Nat → Addr} {f : Str → Option Value} {Q : Flow → Led → Prop}
set_option maxHeartbeats 4000000
theorem s33 (O : Our B) (E : EnvIs env lawKs F (lawCl c)) {Z : LexA} {pv hv : List Value} {hl : Addr} {m : List (Str × Option Value)} {pre a : List Nat} (k3 : (c 4, It.ce (some (.ref Z.x))) ∈ L) (k6 : (c 8, It.ce (some (.ref hl))) ∈ L)
    (HZ : LexOk B Z) (hx : (Z.x, .ob Z.o) ∈ L) (hd : (Z.dx, dn m) ∈ L) (hm : m.lookup ("pushback" : Str) = some (some (Value.ref Z.p))) (hm2 : (m.lookup ("push_token" : Str)).join = none) (hl' : (hl, It.ls hv) ∈ L) (ha : StrsAre hv (a.map nameOf)) (hp : StrsAre pv (pre.map nameOf)) (hz : pre.length + a.length ≤ 100)
    (h : ∀ f' pv', Kept ["word"] f f' → StrsAre pv' ((pre ++ a).map nameOf) → T B (n + 10) (execs (bodyFrom B.w.params 34) env) ((F, .nf f') :: (Z.p, .ls pv') :: L) Q) : T B (n + 10) (execs (bodyFrom B.w.params 33) env) ((F, .nf f) :: (Z.p, .ls pv) :: L) Q :=
  T_from rfl (s_push (n := n + 5) O E lk_word rfl rfl (fun ι => rfl) (ev_c E lk_met lc_met (.tail _ (.tail _ k6))) (fun f' G ι s => ev_c E lk_line lc_line (.tail _ (s _ k3))) HZ hx hd hm hm2 hl' ha hp hz h)
theorem s17 (O : Our B) (E : EnvIs env lawKs F (lawCl c)) {Z : LexA} {pv hv : List Value} {hl : Addr} {m : List (Str × Option Value)} {pre a : List Nat} (k3 : (c 3, It.ce (some (.ref Z.x))) ∈ L) (k6 : (c 6, It.ce (some (.ref hl))) ∈ L)
    (HZ : LexOk B Z) (hx : (Z.x, .ob Z.o) ∈ L) (hd : (Z.dx, dn m) ∈ L) (hm : m.lookup ("pushback" : Str) = some (some (Value.ref Z.p))) (hm2 : (m.lookup ("push_token" : Str)).join = none) (hl' : (hl, It.ls hv) ∈ L) (ha : StrsAre hv (a.map nameOf)) (hp : StrsAre pv (pre.map nameOf)) (hz : pre.length + a.length ≤ 100)
    (h : ∀ f' pv', Kept ["word"] f f' → StrsAre pv' ((pre ++ a).map nameOf) → T B (n + 10) (execs (bodyFrom B.w.params 18) env) ((F, .nf f') :: (Z.p, .ls pv') :: L) Q) : T B (n + 10) (execs (bodyFrom B.w.params 17) env) ((F, .nf f) :: (Z.p, .ls pv) :: L) Q :=
  T_from rfl (s_push (n := n + 5) O E lk_word rfl rfl (fun ι => rfl) (ev_c E lk_front lc_front (.tail _ (.tail _ k6))) (fun f' G ι s => ev_c E lk_lexer lc_lexer (.tail _ (s _ k3))) HZ hx hd hm hm2 hl' ha hp hz h)
theorem s18 (O : Our B) (E : EnvIs env lawKs F (lawCl c)) {Z : LexA} {pv hv : List Value} {hl : Addr} {m : List (Str × Option Value)} {pre a : List Nat} (k3 : (c 4, It.ce (some (.ref Z.x))) ∈ L) (k6 : (c 7, It.ce (some (.ref hl))) ∈ L)
    (HZ : LexOk B Z) (hx : (Z.x, .ob Z.o) ∈ L) (hd : (Z.dx, dn m) ∈ L) (hm : m.lookup ("pushback" : Str) = some (some (Value.ref Z.p))) (hm2 : (m.lookup ("push_token" : Str)).join = none) (hl' : (hl, It.ls hv) ∈ L) (ha : StrsAre hv (a.map nameOf)) (hp : StrsAre pv (pre.map nameOf)) (hz : pre.length + a.length ≤ 100)
    (h : ∀ f' pv', Kept ["word"] f f' → StrsAre pv' ((pre ++ a).map nameOf) → T B (n + 10) (execs (bodyFrom B.w.params 19) env) ((F, .nf f') :: (Z.p, .ls pv') :: L) Q) : T B (n + 10) (execs (bodyFrom B.w.params 18) env) ((F, .nf f) :: (Z.p, .ls pv) :: L) Q :=
  T_from rfl (s_push (n := n + 5) O E lk_word rfl rfl (fun ι => rfl) (ev_c E lk_rear lc_rear (.tail _ (.tail _ k6))) (fun f' G ι s => ev_c E lk_line lc_line (.tail _ (s _ k3))) HZ hx hd hm hm2 hl' ha hp hz h)
theorem s19 (O : Our B) (E : EnvIs env lawKs F (lawCl c)) {Z : LexA} {pv hv v3 v4 : List Value} {hl hd el g3 g4 : Addr} {y1 y2 : Value} {m : List (Str × Option Value)} {kvs : List (Str × Value)} {hs b3 b4 us : List Nat} (k4 : (c 4, It.ce (some (.ref Z.x))) ∈ L) (k5 : (c 5, It.ce (some (.ref hd))) ∈ L) (k7 : (c 7, It.ce (some (.ref hl))) ∈ L)
    (he : f "rows" = some (.ref el)) (hel : (el, It.ls [y1, y2, .ref g3, .ref g4]) ∈ L) (hg3 : (g3, It.ls v3) ∈ L) (hg4 : (g4, It.ls v4) ∈ L) (hk : (hd, dS B kvs) ∈ L)
    (HZ : LexOk B Z) (hx : (Z.x, .ob Z.o) ∈ L) (hdx : (Z.dx, dn m) ∈ L) (hm : m.lookup ("pushback" : Str) = some (some (Value.ref Z.p))) (hm1 : (m.lookup ("get_token" : Str)).join = none) (hm2 : (m.lookup ("push_token" : Str)).join = none)
    (hp : StrsAre pv (hs.map nameOf)) (hhv : StrsAre hv (hs.map nameOf)) (n3 : StrsAre v3 (b3.map nameOf)) (n4 : StrsAre v4 (b4.map nameOf)) (hH : HuesD kvs us) (hsu : ∀ y ∈ hs, y ∈ us ∧ y < 16) (u3 : ∀ y ∈ b3, y ∈ us ∧ y < 16) (u4 : ∀ y ∈ b4, y ∈ us ∧ y < 16) (l3 : b3.length ≤ hs.length) (l4 : b4.length ≤ hs.length) (hle : hs.length ≤ 20)
    (h : ∀ acc t1 t2 g1 g2 n1 n2 u1 u2 v1 v2 pv' hv' gs1 gs2 xs1 xs2 e, PassR false hs b3 gs1 n1 xs1 → PassR false (xs1 ++ b3) b4 gs2 n2 xs2 → StrsAre v1 (gs1.map nameOf) → StrsAre v2 (gs2.map nameOf) → StrsAre pv' ((xs2 ++ b4).map nameOf) → StrsAre hv' ((xs2 ++ b4).map nameOf) →
      (acc, .ls [.ref t1, .ref t2]) ∈ e → (t1, tup [.ref g1, .int n1 u1]) ∈ e → (t2, tup [.ref g2, .int n2 u2]) ∈ e → (g1, .ls v1) ∈ e → (g2, .ls v2) ∈ e → T B (n + 10) (execs (bodyFrom B.w.params 20) env) ((F, .nf (up f "first" (.ref acc))) :: (Z.p, .ls pv') :: (hl, .ls hv') :: (e ++ L)) Q) :
    T B (n + 10) (execs (bodyFrom B.w.params 19) env) ((F, .nf f) :: (Z.p, .ls pv) :: (hl, .ls hv) :: L) Q := by
  refine T_from rfl (s_pass2 O false (ks' := [("box", .local), ("_law_pass", .globalImplicit), ("line", .cell), ("rear", .cell), ("hues", .cell)]) (cl' := [("rear", c 7), ("line", c 4), ("hues", c 5)]) (x1 := .ref g3) (x2 := .ref g4) (b1 := g3) (b2 := g4) E lk_first rfl rfl (by kst_allIn) rfl rfl rfl rfl (by kst_allIn) (by kst_allIn) (.head _) (fun ι => rfl) (.tail _ (.head _)) ?hi ?hev (fun ι G => ev_p16 G) HZ hm hm1 hm2 hx hdx hg3 hg4 hk hp hhv n3 n4 hH hsu u3 u4 l3 l4 hle h)
  case hi =>
    intro Q h
    refine T_Sub ((ev_f E lk_rows he).2 _ (T_Slice (T_vsome ?_)))
    repeat nest_cls
    exact T_vnone (T_vnone fun sa => T_getSlice (lo := some 2) (hi := none) (st := none) (.tail _ (.tail _ (.tail _ (.tail _ hel)))) (.head _) (.int _ _) .none .none (by decide) slice_from2 (Nat.le_of_ble_eq_true rfl) ⟨_, rfl⟩ fun lr => T_weak (T_iter_ls (.head _) fun it => ⟨_, .cons .head (.cons (.tail (.tail .head)) (.cons (.tail (.tail .head)) (.cons (.tail (.tail .head)) (.cons .head (.skip .refl))))), h it (lsIter lr) (lr, .ls [.ref g3, .ref g4]) [(lr, .ls [.ref g3, .ref g4])] itr_ls (.head _)⟩))
  case hev =>
    intro C cenv G E' s
    exact ⟨ev_c E' (by tb_rel) (by tb_rel) (s _ k4), ev_c E' (by tb_rel) (by tb_rel) (s _ k7), ev_c E' (by tb_rel) (by tb_rel) (s _ k5), fun hC => ⟨fun ι => rfl, fun Q h => T_nm E' (.head _) (nm_local hC (.head _) h)⟩, fun hC => ⟨fun ι => rfl, fun Q h => T_nm E' (.head _) (nm_local hC (.head _) h)⟩⟩
theorem s21 (O : Our B) (E : EnvIs env lawKs F (lawCl c)) {Z : LexA} {pv hv bv : List Value} {hl hd bl : Addr} {o8 : Option Value} {m : List (Str × Option Value)} {kvs : List (Str × Value)} {hs bs us : List Nat} (k3 : (c 3, It.ce (some (.ref Z.x))) ∈ L) (k5 : (c 5, It.ce (some (.ref hd))) ∈ L) (k6 : (c 6, It.ce (some (.ref hl))) ∈ L) (k7 : (c 7, It.ce (some (.ref bl))) ∈ L) (hbl : (bl, It.ls bv) ∈ L) (hk : (hd, dS B kvs) ∈ L)
    (HZ : LexOk B Z) (hx : (Z.x, .ob Z.o) ∈ L) (hdx : (Z.dx, dn m) ∈ L) (hm : m.lookup ("pushback" : Str) = some (some (Value.ref Z.p))) (hm1 : (m.lookup ("get_token" : Str)).join = none) (hm2 : (m.lookup ("push_token" : Str)).join = none)
    (hp : StrsAre pv (hs.map nameOf)) (hhv : StrsAre hv (hs.map nameOf)) (hb : StrsAre bv (bs.map nameOf)) (hH : HuesD kvs us) (hsu : ∀ y ∈ hs, y ∈ us ∧ y < 16) (hbu : ∀ y ∈ bs, y ∈ us ∧ y < 16) (hle1 : bs.length ≤ hs.length) (hle : hs.length ≤ 20)
    (h : ∀ tp gl u gv pv' hv' gs tn xs, PassR false hs bs gs tn xs → StrsAre gv (gs.map nameOf) → StrsAre pv' ((xs ++ bs).map nameOf) → StrsAre hv' ((xs ++ bs).map nameOf) → T B (n + 10) (execs (bodyFrom B.w.params 22) env) ((F, .nf (up f "across" (.int tn u))) :: (Z.p, .ls pv') :: (hl, .ls hv') :: (c 8, .ce (some (.ref gl))) :: ([(tp, tup [.ref gl, .int tn u]), (gl, .ls gv)] ++ L)) Q) :
    T B (n + 10) (execs (bodyFrom B.w.params 21) env) ((F, .nf f) :: (Z.p, .ls pv) :: (hl, .ls hv) :: (c 8, .ce o8) :: L) Q := by
  refine T_from rfl ?_
  refine T_s_AsTup rfl rfl (ev_pass (m := m) O false E lk_pass (ev_c E lk_lexer lc_lexer (.tail _ (.tail _ (.tail _ (.tail _ k3))))) (ev_c E lk_front lc_front (.tail _ (.tail _ (.tail _ (.tail _ k6))))) (ev_c E lk_rear lc_rear (.tail _ (.tail _ (.tail _ (.tail _ k7))))) (ev_c E lk_hues lc_hues (.tail _ (.tail _ (.tail _ (.tail _ k5))))) (ev_p16 _) HZ hm hm1 hm2 R1 R1 (.tail _ (.tail _ hx)) (.tail _ (.tail _ hdx)) (.tail _ (.tail _ hbl)) (.tail _ (.tail _ hk)) hp hhv hb hH hsu hbu hle1 hle fun tp gl u gv pv' hv' gs tn xs P q1 q2 q3 => ?_)
  repeat nest_cls
  exact T_pick (.cons .head (.cons (.tail (.tail (.tail .head))) (.cons (.tail (.tail (.tail .head))) (.cons .head .refl)))) (h _ _ _ _ _ _ _ _ _ P q1 q2 q3)
end
section
variable {B : Bg} {n : Nat} {L : Led} {env : Env} {F p hl : Addr} {c : Nat → Addr} {ks ks' : List (Str × NameKind)} {cl cl' : List (Str × Addr)} {it0 : It} {pv hv : List Value}
set_option maxHeartbeats 4000000
theorem T_gets (O : Our B) {ob : Str} {q1 q2 q3 pq pos : Pos} {iter : Expr} {scope : Scope} {Z : LexA} {m : List (Str × Option Value)} {a : List Nat} {Q : Value → Led → Prop} (hpp : (q2.endLine == q3.line) = true) (E : EnvIs env ks F cl) (hcl : closL scope.names cl [] = some cl') (hnd' : decide (cl'.map (·.1)).Nodup = true) (hkind : scope.kind = .function) (hnames : (scope.names.all fun x => x.2 != .local || scope.names.lookup x.1 == some .local) = true) (hcell : (scope.names.all fun x => x.2 != .cell) = true)
    (hf : (scope.names.all fun x => x.2 != .free || (ks.lookup x.1).isSome) = true)
    (hks : (ks'.all fun p => (relabL ks scope.names).lookup p.1 == some p.2 && !(p.1 == ("__debug__" : Str)) && !(p.1 == ("__classdict__" : Str))) = true)
    (hxn : (("_" : Str), NameKind.local) ∈ ks') (hsf : ∀ x, foldedSetIterable iter env x = pure x)
    (hi : Ev B (n + 10) env ((F, it0) :: (p, .ls pv) :: L) iter (.ref hl)) (hob : ∀ C cenv G, EnvIs cenv ks' C cl' → Sub L G → Ev B (n + 10) cenv G (.Name ob q1) (.ref Z.x))
    (HZ : LexOk B Z) (hx : (Z.x, .ob Z.o) ∈ L) (hdx : (Z.dx, dn m) ∈ L) (hm : m.lookup ("pushback" : Str) = some (some (Value.ref p))) (hm1 : (m.lookup ("get_token" : Str)).join = none)
    (hl' : (hl, It.ls hv) ∈ L) (hp : StrsAre pv (a.map nameOf)) (hhv : StrsAre hv (a.map nameOf)) (hz : a.length ≤ 100)
    (h : ∀ acc av, StrsAre av (a.map nameOf) → Q (.ref acc) ((F, it0) :: (p, .ls []) :: (acc, .ls av) :: L)) :
    T B (n + 10) (eval (.ListComp (.Call (.Attribute (.Name ob q1) "get_token" q2) [] [] q3) [⟨.Name "_" pq, iter, [], 0⟩] scope pos) env) ((F, it0) :: (p, .ls pv) :: L) Q := by
  refine T_weak (T_ListComp ks' cl' [("_", none)] E hcl (of_decide_eq_true hnd') hkind hnames hcell hf hks rfl (of_decide_eq_true rfl) hsf (hi.2 _ (T_iter_ls (.tail _ (.tail _ hl')) fun it acc C cenv E' => ⟨self_ls (.tail _ (.tail _ (.head _))), ?_⟩)))
  refine Tc_comp_g (l := hl) (vs := hv) (fun r av R => ∃ td pq dn, R = (F, it0) :: (p, .ls pq) :: L ∧ StrsAre r (td.map nameOf) ∧ StrsAre pq (td.map nameOf) ∧ a = dn ++ td ∧ StrsAre av (dn.map nameOf)) ?hm ?hz (fun ι ι => rfl) ?turn ?fin ⟨a, pv, [], rfl, hhv, hp, rfl, .nil⟩
  case hm => rintro r av _ ⟨_, _, _, rfl, _⟩; exact .tail _ (.tail _ hl')
  case hz =>
    rintro r av _ ⟨td, pq, dn, _, _, _, e, h5⟩
    rw [strsAre_len h5, List.length_map]
    rw [e, List.length_append] at hz
    omega
  case turn =>
    rintro ia X x rs o av _ ⟨td, pq, dn, rfl, h2, h3, e, h5⟩
    cases td with
    | nil => cases h2
    | cons z td =>
      cases h2 with | cons _ t h2 => cases h3 with | cons _ t' h3 =>
      refine T_assignName (T_st_local E' hxn (.tail .head) .head ?_)
      have sb : ∀ pq' : List Value, Sub L ((C, .ns [("_", some (.str (nameOf z) t))]) :: (ia, X) :: (acc, .ls av) :: (F, it0) :: (p, .ls pq') :: L) := fun ι ι hp => .tail _ (sub4 (fun ι h => h) _ hp)
      refine T_MethS0 rfl hpp ((hob C cenv _ E' (sb _)).2 _ ⟨_, cal_get O (sb _ _ hx) (sb _ _ hdx) HZ.inst HZ.ne hm1, kp_143 O, ?_⟩)
      refine c_get1 O (p := p) HZ.inst HZ.ne hm R4 (sub4 (fun ι h => h) _ hx) (sub4 (fun ι h => h) _ hdx) ?_ ⟨_, _, .cons (.tail (.tail .head)) (.cons (.tail .head) (.cons (.tail .head) (.cons (.tail .head) .refl))), td, _, dn ++ [z], rfl, h2, h3, by rw [e, List.append_assoc]; rfl, by rw [List.map_append]; exact strsAre_append h5 (.cons _ _ .nil)⟩
      rw [strsAre_len h3, List.length_map]
      rw [e, List.length_append] at hz
      exact Nat.le_trans (Nat.le_trans (Nat.le_succ _) (Nat.le_add_left _ _)) hz
  case fin =>
    rintro o av _ ⟨td, pq, dn, rfl, h2, h3, e, h5⟩
    cases td with
    | cons z td => cases h2
    | nil =>
      cases h3
      rw [List.append_nil] at e
      exact ⟨_, _, .head, List.cons_ne_nil _ _, _, .cons (.tail .head) (.cons (.tail .head) .refl), h _ _ (e ▸ h5)⟩
theorem s22 (O : Our B) {f : Str → Option Value} {Q : Flow → Led → Prop} (E : EnvIs env lawKs F (lawCl c)) {Z Y : LexA} {zv yv rv fv : List Value} {r1 r0 : Addr} {mz my : List (Str × Option Value)} {a b : List Nat} (k3 : (c 3, It.ce (some (.ref Z.x))) ∈ L) (k4 : (c 4, It.ce (some (.ref Y.x))) ∈ L) (k6 : (c 6, It.ce (some (.ref r0))) ∈ L) (k7 : (c 7, It.ce (some (.ref r1))) ∈ L)
    (HZ : LexOk B Z) (hx : (Z.x, .ob Z.o) ∈ L) (hdx : (Z.dx, dn mz) ∈ L) (hm : mz.lookup ("pushback" : Str) = some (some (Value.ref Z.p))) (hm1 : (mz.lookup ("get_token" : Str)).join = none)
    (HY : LexOk B Y) (hy : (Y.x, .ob Y.o) ∈ L) (hdy : (Y.dx, dn my) ∈ L) (hn : my.lookup ("pushback" : Str) = some (some (Value.ref Y.p))) (hn1 : (my.lookup ("get_token" : Str)).join = none)
    (hf : (r0, It.ls fv) ∈ L) (hr : (r1, It.ls rv) ∈ L) (ha : StrsAre zv (a.map nameOf)) (ha' : StrsAre fv (a.map nameOf)) (hb : StrsAre yv (b.map nameOf)) (hb' : StrsAre rv (b.map nameOf)) (za : a.length ≤ 100) (zb : b.length ≤ 100) (oa : ∀ x ∈ a.map nameOf, PyData.strOk x = true) (ob : ∀ x ∈ b.map nameOf, PyData.strOk x = true)
    (h : T B (n + 10) (execs (bodyFrom B.w.params 23) env) ((F, .nf f) :: (Z.p, .ls []) :: (Y.p, .ls []) :: L) Q) :
    T B (n + 10) (execs (bodyFrom B.w.params 22) env) ((F, .nf f) :: (Z.p, .ls zv) :: (Y.p, .ls yv) :: L) Q := by
  refine T_from rfl ?_
  repeat nest_cls
  refine T_pick (L' := (F, .nf f) :: (Y.p, .ls yv) :: (Z.p, .ls zv) :: L) (.cons .head (.cons (.tail .head) (.cons .head .refl))) ?_
  refine T_gets (ks' := [("_", .local), ("line", .cell)]) (cl' := [("line", c 4)]) O rfl E (by kst_allIn) rfl rfl rfl rfl (by kst_allIn) (by kst_allIn) (.head _) (fun ι => rfl) (ev_c E lk_rear lc_rear (.tail _ (.tail _ (.tail _ k7)))) (fun C cenv G E' s => ev_c E' (.tail _ (.head _)) (.head _) (s _ (.tail _ k4))) HY (.tail _ hy) (.tail _ hdy) hn hn1 (.tail _ hr) hb hb' zb fun acc av h1 => ?_
  repeat nest_cls
  refine T_neStrs (.tail _ (.tail _ (.head _))) h1 (.tail _ (.tail _ (.tail _ (.tail _ hr)))) hb' ob (Nat.le_add_left 1 _) ?_
  repeat nest_cls
  refine T_pick (L' := (F, .nf f) :: (Z.p, .ls zv) :: (Y.p, .ls []) :: L) (.cons .head (.cons (.tail (.tail .head)) (.cons .head (.skip .refl)))) ?_
  refine T_gets (ks' := [("_", .local), ("lexer", .cell)]) (cl' := [("lexer", c 3)]) O rfl E (by kst_allIn) rfl rfl rfl rfl (by kst_allIn) (by kst_allIn) (.head _) (fun ι => rfl) (ev_c E lk_front lc_front (.tail _ (.tail _ (.tail _ k6)))) (fun C cenv G E' s => ev_c E' (.tail _ (.head _)) (.head _) (s _ (.tail _ k3))) HZ (.tail _ hx) (.tail _ hdx) hm hm1 (.tail _ hf) ha ha' za fun acc2 av2 h2 => ?_
  repeat nest_cls
  refine T_neStrs (.tail _ (.tail _ (.head _))) h2 (.tail _ (.tail _ (.tail _ (.tail _ hf)))) ha' oa (Nat.le_add_left 1 _) ?_
  repeat nest_cls
  exact T_pick (.cons .head (.cons .head (.cons (.tail .head) (.skip .refl)))) h
end
section
variable {B : Bg} {n : Nat} {L : Led} {env : Env} {F nl : Addr} {c : Nat → Addr} {f : Str → Option Value} {Q : Flow → Led → Prop}
set_option maxHeartbeats 4000000
theorem lk_home : (("home" : Str), NameKind.local) ∈ lawKs := by tb_rel
theorem s38 (O : Our B) (E : EnvIs env lawKs F (lawCl c)) {a4 t8 t9 r0 g8 g9 g10 : Addr} {x8 x9 : Value} {w0 w1 w2 w3 s0 s1 s2 s3 : List Nat} (k1 : (c 1, It.ce (some (.ref nl))) ∈ L) (hnl : LsW L nl flagNames) (k6 : (c 6, It.ce (some (.ref r0))) ∈ L) (hl : f "last" = some (.ref g10)) (h4 : f "fourth" = some (.ref a4)) (m4 : (a4, It.ls [.ref t8, .ref t9]) ∈ L) (n8 : (t8, tup [.ref g8, x8]) ∈ L) (n9 : (t9, tup [.ref g9, x9]) ∈ L)
    (q0 : LsW L r0 (w0.map nameOf)) (q1 : LsW L g10 (w1.map nameOf)) (q2 : LsW L g9 (w2.map nameOf)) (q3 : LsW L g8 (w3.map nameOf))
    (hp : ∀ p ∈ [(w0, s0), (w1, s1), (w2, s2), (w3, s3)], p.1.Perm p.2 ∧ (p.2.map ci).Pairwise (· ≤ ·) ∧ (∀ z ∈ p.1, z < 16) ∧ p.1.length < 64)
    (h : ∀ hm ys e, Are (fun p v => ∃ d, v = .ref d ∧ LsN (e ++ []) d p.2) [(w0, s0), (w1, s1), (w2, s2), (w3, s3)] ys → T B (n + 10) (execs (bodyFrom B.w.params 39) env) ((F, .nf (up f "home" (.ref hm))) :: (hm, .ls ys) :: (e ++ L)) Q) :
    T B (n + 10) (execs (bodyFrom B.w.params 38) env) ((F, .nf f) :: L) Q := by
  refine T_from rfl (T_s_AsComp [("one", .local), ("names", .cell), ("sorted", .globalImplicit)] [("names", c 1)] [("one", none)] E (swaps_comp E lk_home rfl rfl) (by kst_allIn) (of_decide_eq_true rfl) rfl rfl rfl (by kst_allIn) (by kst_allIn) rfl rfl (fun ι => rfl) ?_)
  refine T_Tuple (T_items_cons rfl ((ev_c E lk_front lc_front (.tail _ k6)).2 _ (T_items_cons rfl ((ev_f E lk_last hl).2 _ (T_items_cons rfl ((ev_tup (ev_ls (ev_f E lk_fourth h4) (.tail _ m4) rfl rfl) (.tail _ n9) rfl rfl).2 _ (T_items_cons rfl ((ev_tup (ev_ls (ev_f E lk_fourth h4) (.tail _ m4) rfl rfl) (.tail _ n8) rfl rfl).2 _ (T_items_nil ⟨szk (k := 4) (by decide), fun t => T_iter_tup (.head _) fun it acc C cenv E' => ⟨self_tup (.tail _ (.tail _ (.head _))), ?_⟩⟩)))))))))
  have sb : Sub L ((t, tup [.ref r0, .ref g10, .ref g9, .ref g8]) :: (F, .nf f) :: L) := fun p hp => .tail _ (.tail _ hp)
  refine Tc_map (xs := [(w0, s0), (w1, s1), (w2, s2), (w3, s3)]) (V := fun (p : List Nat × List Nat) v => ∃ d, v = .ref d ∧ LsW L d (p.1.map nameOf)) (W := fun (G : Led) (p : List Nat × List Nat) (v : Value) => ∃ d, v = .ref d ∧ LsN G d p.2) (M := []) E' (.head _) itr_tup (.head _) (.cons ⟨_, rfl, q0⟩ (.cons ⟨_, rfl, q1⟩ (.cons ⟨_, rfl, q2⟩ (.cons ⟨_, rfl, q3⟩ .nil)))) (by decide : 4 ≤ 1000) (fun s h => h.elim fun d h => ⟨d, h.1, h.2.mono s⟩) ?turn ?fin
  case turn =>
    rintro ⟨ws, ss⟩ _ G hm ⟨d, rfl, hd⟩ hC s
    have s' : Sub L G := fun p hp => s p (sb p hp)
    exact home_turn (n := n + 5) O rfl (s' _ k1) (hnl.mono s') (hd.mono s') (hp _ hm) E' hC
  case fin =>
    intro o ys e h3
    exact T_stf E lk_home (.tail (.tail rem_app2)) ⟨_, _, .tail .head, List.cons_ne_nil _ _, T_pick (.cons .head (.cons .head pick_app3)) (h _ _ _ h3)⟩
end
namespace New
section
variable {B : Bg} {n : Nat} {L : Led} {env : Env} {F : Addr} {c : Nat → Addr} {f : Str → Option Value} {Q : Flow → Led → Prop}
set_option maxHeartbeats 4000000
theorem s4 (O : Our B) (E : EnvIs env lawKs F (lawCl c)) {ce : Addr} {a0 a1 big mid : Nat} {x2 x3 x4 : Value} {t0 t1 tb tm : Tok} (e1 : f "cells" = some (.ref ce)) (e2 : f "big" = some (.int ((big : Nat) : Int) tb)) (k0 : (c 0, It.ce (some (.int ((mid : Nat) : Int) tm))) ∈ L) (hce : (ce, It.ls [.int ((a0 : Nat) : Int) t0, .int ((a1 : Nat) : Int) t1, x2, x3, x4]) ∈ L) (hb : big ≤ 4) (hm : mid ≤ 3)
    (h : ∀ (dl d0 d1 : Addr) (v0 v1 : List Value) (h0 h1 : List Nat), IntsAre v0 (h0.map ci) → IntsAre v1 (h1.map ci) → DrOk h0 → DrOk h1 → h0.length = big → h1.length = mid →
      T B (n + 10) (execs (bodyFrom B.w.params 5) env) ((F, .nf (up f "drawn" (.ref dl))) :: (dl, .ls [.ref d0, .ref d1]) :: (d0, .ls v0) :: (d1, .ls v1) :: L) Q) :
    T B (n + 10) (execs (bodyFrom B.w.params 4) env) ((F, .nf f) :: L) Q := by
  refine T_from rfl ?_
  repeat nest_cls
  refine c_hues O (Int.fdiv_nonneg (by omega) (by omega)) (by omega) (by omega) fun d0 v0 hs0 i0 k0 => (natHues k0).elim fun h0 q0 => ?_
  repeat nest_cls
  refine c_hues O (Int.fdiv_nonneg (by omega) (by omega)) (by omega) (by omega) fun d1 v1 hs1 i1 k1 => (natHues k1).elim fun h1 q1 => ?_
  repeat nest_cls
  exact T_pick (by kct_strs) (h _ _ _ _ _ h0 h1 (q0.1 ▸ i0) (q1.1 ▸ i1) ⟨q0.2.2.1, q0.2.2.2⟩ ⟨q1.2.2.1, q1.2.2.2⟩ q0.2.1 q1.2.1)
set_option tactic.hygienic true in
theorem s6 (E : EnvIs env lawKs F (lawCl c)) {o1 : Option Value}
    (h : ∀ (nl : Addr) (nv : List Value), StrsAre nv flagNames → T B (n + 10) (execs (bodyFrom B.w.params 8) env) ((F, .nf f) :: (c 1, .ce (some (.ref nl))) :: (nl, .ls nv) :: L) Q) :
    T B (n + 10) (execs (bodyFrom B.w.params 6) env) ((F, .nf f) :: (c 1, .ce o1) :: L) Q := by
  refine T_from rfl ?_
  repeat nest_cls
  rename_i nl
  refine T_from rfl ?_
  repeat nest_cls
  refine T_iaddList (by tb_start) (by tb_rel) (of_decide_eq_true rfl) ?_
  repeat nest_cls
  dsimp only [List.nil_append, List.cons_append]
  refine T_pick (.cons (.tail (.tail (.tail .head))) (.cons .head (.cons .head (.skip .refl)))) (h nl _ (.cons _ _ (.cons _ _ (.cons _ _ (.cons _ _ (.cons _ _ (.cons _ _ (.cons _ _ (.cons _ _ (.cons _ _ (.cons _ _ (.cons _ _ (.cons _ _ (.cons _ _ (.cons _ _ (.cons _ _ (.cons _ _ .nil)))))))))))))))))
theorem s5 (O : Our B) (E : EnvIs env lawKs F (lawCl c)) {ce dl : Addr} {c2 c3 mid : Nat} {x0 x1 x4 y0 y1 : Value} {t2 t3 tm : Tok} (e1 : f "cells" = some (.ref ce)) (e2 : f "drawn" = some (.ref dl)) (k0 : (c 0, It.ce (some (.int ((mid : Nat) : Int) tm))) ∈ L) (hce : (ce, It.ls [x0, x1, .int ((c2 : Nat) : Int) t2, .int ((c3 : Nat) : Int) t3, x4]) ∈ L) (hm : mid ≤ 3)
    (h : ∀ (d2 d3 : Addr) (v2 v3 : List Value) (h2 h3 : List Nat), IntsAre v2 (h2.map ci) → IntsAre v3 (h3.map ci) → DrOk h2 → DrOk h3 → h2.length ≤ mid → h3.length ≤ mid → ∀ f', Kept [] f f' →
      T B (n + 10) (execs (bodyFrom B.w.params 6) env) ((F, .nf (up f "drawn" (.ref dl))) :: (dl, .ls [y0, y1, .ref d2, .ref d3]) :: (d2, .ls v2) :: (d3, .ls v3) :: L) Q) :
    T B (n + 10) (execs (bodyFrom B.w.params 5) env) ((F, .nf f) :: (dl, .ls [y0, y1]) :: L) Q := by
  refine T_from rfl ?_
  repeat nest_cls
  refine T_ListComp [("number", .local), ("_law_hues", .globalImplicit), ("mid", .cell)] [("mid", c 0)] [("number", none)] E (by kst_allIn) (of_decide_eq_true rfl) rfl rfl rfl (by kst_allIn) (by kst_allIn) rfl rfl (fun ι => rfl) ?_
  repeat nest_cls
  refine T_Slice (T_vsome ?_)
  repeat nest_cls
  refine T_vsome ?_
  repeat nest_cls
  refine T_vnone ?_
  intro sa
  refine T_getSlice (lo := some 2) (hi := some 4) (st := none) (by tb_rel) (by tb_rel) (.int _ _) (.int _ _) .none (by decide) (ws := [.int (c2 : Nat) t2, .int (c3 : Nat) t3]) rfl (of_decide_eq_true rfl) ⟨_, rfl⟩ fun lr => ?_
  repeat nest_cls
  refine T_iter_ls (.head _) fun it acc C cenv E' => ⟨self_ls (.tail _ (.tail _ (.head _))), ?_⟩
  refine Tc_pick (L' := (C, .ns [("number", none)]) :: (acc, .ls []) :: (it, lsIter lr 0) :: (lr, .ls [.int (c2 : Nat) t2, .int (c3 : Nat) t3]) :: (F, .nf f) :: (dl, .ls [y0, y1]) :: L) (by kct_strs) ?_
  have l2 : c2 % 12 % (mid + 1) < mid + 1 := Nat.mod_lt _ (by omega)
  have l3 : c3 % 12 % (mid + 1) < mid + 1 := Nat.mod_lt _ (by omega)
  have em : ∀ x : Nat, ((x : Int).fmod 12).fmod ((mid : Int) + 1) = ((x % 12 % (mid + 1) : Nat) : Int) := fun x => by
    rw [Int.fmod_eq_emod_of_nonneg _ (show (0 : Int) ≤ mid + 1 by omega), Int.fmod_eq_emod_of_nonneg _ (show (0 : Int) ≤ 12 by decide)]; push_cast; rfl
  refine Tc_two itr_ls E' (.head _) (.head _) ?_
  repeat nest_cls
  refine T_fmod (by omega) fun k2 => ?_
  rw [em]
  repeat nest_cls
  refine c_hues O (Int.fdiv_nonneg (by omega) (by omega)) (by omega) (by omega) fun d2 v2 hs2 i2 q2 => (natHues q2).elim fun h2 q2 => ?_
  refine ⟨(lr, .ls [.int (c2 : Nat) t2, .int (c3 : Nat) t3]) :: (F, .nf f) :: (dl, .ls [y0, y1]) :: (d2, .ls v2) :: L, by kct_strs, .head _, ?_⟩
  repeat nest_cls
  refine T_fmod (by omega) fun k3 => ?_
  rw [em]
  repeat nest_cls
  refine c_hues O (Int.fdiv_nonneg (by omega) (by omega)) (by omega) (by omega) fun d3 v3 hs3 i3 q3 => (natHues q3).elim fun h3 q3 => ?_
  refine ⟨(lr, .ls [.int (c2 : Nat) t2, .int (c3 : Nat) t3]) :: (F, .nf f) :: (dl, .ls [y0, y1]) :: (d2, .ls v2) :: (d3, .ls v3) :: L, by kct_strs, .head _, ?_⟩
  refine ⟨_, _, .head, List.cons_ne_nil _ _, ?_⟩
  refine T_iaddList (by tb_start) (by tb_rel) (of_decide_eq_true rfl) ?_
  repeat nest_cls
  dsimp only [List.nil_append, List.cons_append]
  exact T_pick (by kct_strs) (h d2 d3 v2 v3 h2 h3 (q2.1 ▸ i2) (q3.1 ▸ i3) ⟨q2.2.2.1, q2.2.2.2⟩ ⟨q3.2.2.1, q3.2.2.2⟩ (by rw [q2.2.1]; omega) (by rw [q3.2.1]; omega) f Kept.refl)
end
end New
namespace New
section
variable {B : Bg} {n : Nat} {L : Led} {env : Env} {F : Addr} {c : Nat → Addr} {f : Str → Option Value} {Q : Flow → Led → Prop}
set_option maxHeartbeats 4000000
theorem s2 (O : Our B) (E : EnvIs env lawKs F (lawCl c)) {ce : Addr} {c0 c4 : Nat} {x1 x2 x3 : Value} {t0 t4 : Tok} (e1 : f "cells" = some (.ref ce)) (hce : (ce, It.ls [.int ((c0 : Nat) : Int) t0, x1, x2, x3, .int ((c4 : Nat) : Int) t4]) ∈ L)
    (h : ∀ tb, T B (n + 10) (execs (bodyFrom B.w.params 3) env) ((F, .nf (up (up f "big" (.int ((2 + c0 % 3 : Nat) : Int) tb)) "seed" (.int ((c4 : Nat) : Int) t4))) :: L) Q) :
    T B (n + 10) (execs (bodyFrom B.w.params 2) env) ((F, .nf f) :: L) Q := by
  have eb : (2 : Int) + ((c0 : Int)).fmod 3 = ((2 + c0 % 3 : Nat) : Int) := by rw [Int.fmod_eq_emod_of_nonneg _ (by decide)]; push_cast; rfl
  refine T_from rfl ?_
  repeat nest_cls
  rw [eb]
  repeat nest_cls
  exact h _
theorem s3 (O : Our B) (E : EnvIs env lawKs F (lawCl c)) {ce : Addr} {c1 big : Nat} {x0 x2 x3 x4 : Value} {t1 tb : Tok} {o0 : Option Value} (e1 : f "cells" = some (.ref ce)) (e2 : f "big" = some (.int ((big : Nat) : Int) tb)) (hb : 2 ≤ big) (hce : (ce, It.ls [x0, .int ((c1 : Nat) : Int) t1, x2, x3, x4]) ∈ L)
    (h : ∀ tm, T B (n + 10) (execs (bodyFrom B.w.params 4) env) ((F, .nf f) :: (c 0, .ce (some (.int ((1 + c1 % min 3 big : Nat) : Int) tm))) :: L) Q) :
    T B (n + 10) (execs (bodyFrom B.w.params 3) env) ((F, .nf f) :: (c 0, .ce o0) :: L) Q := by
  refine T_from rfl ?_
  repeat nest_cls
  rw [show min (3 : Int) ((big : Nat) : Int) = ((min 3 big : Nat) : Int) by omega]
  refine T_fmod (by omega) fun k5 => ?_
  repeat nest_cls
  rw [show (1 : Int) + ((c1 : Int)).fmod ((min 3 big : Nat) : Int) = ((1 + c1 % min 3 big : Nat) : Int) by rw [Int.fmod_eq_emod_of_nonneg _ (by omega)]; push_cast; rfl]
  repeat nest_cls
  exact T_pick (by kct_strs) (h _)
end
end New
namespace New
section
variable {B : Bg} {n : Nat} {L : Led} {env : Env} {F : Addr} {c : Nat → Addr} {f : Str → Option Value} {Q : Flow → Led → Prop}
set_option maxHeartbeats 4000000
theorem s0 (E : EnvIs env lawKs F (lawCl c)) (h : ∀ (cl : Addr) (cvs : List Value), IntsAre cvs (([6004, 1075, 1730, 61, 65] : List Nat).map ci) → T B n (execs (bodyFrom B.w.params 1) env) ((F, .nf (up f "cells" (.ref cl))) :: (cl, .ls cvs) :: L) Q) : T B n (execs (bodyFrom B.w.params 0) env) ((F, .nf f) :: L) Q := by
  refine T_from rfl ?_
  repeat nest_cls
  exact h _ _ (.cons _ _ (.cons _ _ (.cons _ _ (.cons _ _ (.cons _ _ .nil)))))
inductive InvN (L : Led) (F cl : Addr) (f : Str → Option Value) : Led → Prop
  | mk {f' : Str → Option Value} {cvs : List Value} {cs : List Nat} : Kept ["place", "number"] f f' → cs.length = 5 → IntsAre cvs (cs.map ci) → InvN L F cl f ((F, .nf f') :: (cl, .ls cvs) :: L)
theorem fm5 (k : Nat) : (k : Int).fmod 5 = ((k % 5 : Nat) : Int) := by rw [Int.fmod_eq_emod_of_nonneg _ (by decide)]; rfl
theorem s1 (O : Our B) (E : EnvIs env lawKs F (lawCl c)) {sc cl : Addr} {svs cvs : List Value} {sns : List Int} (e1 : f "script" = some (.ref sc)) (e2 : f "cells" = some (.ref cl)) (hc : IntsAre cvs (([6004, 1075, 1730, 61, 65] : List Nat).map ci)) (hT : ∀ L, TyIs B L (.ref sc) "list") (hS : ∀ L s, St B L s → s.heap.IsList sc svs.toArray) (hI : IntsAre svs sns) (hl : svs.length ≤ 16384)
    (h : ∀ f' cvs (cs : List Nat), Kept ["place", "number"] f f' → cs.length = 5 → IntsAre cvs (cs.map ci) → T B (n + 1) (execs (bodyFrom B.w.params 2) env) ((F, .nf f') :: (cl, .ls cvs) :: L) Q) : T B (n + 1) (execs (bodyFrom B.w.params 1) env) ((F, .nf f) :: (cl, .ls cvs) :: L) Q := by
  refine T_from rfl ?_
  repeat nest_cls
  refine T_Slice (T_vnone (T_vsome ?_))
  repeat nest_cls
  refine T_vnone ?_
  intro sa
  refine T_getSlice' (lo := none) (hi := some 60) (st := none) (hT _) (hS _) (by tb_rel) .none (.int _ _) .none (by decide) (ws := (slicePick svs.toArray none (some 60) none).toList) (by rw [Array.toArray_toList]) hl ⟨_, rfl⟩ fun lr => ?_
  have hI' := kmk_upto hI (y := 60) (by decide)
  generalize (slicePick svs.toArray none (some 60) none).toList = ws at hI'
  generalize List.take (Int.toNat 60) sns = wns at hI'
  repeat nest_cls
  refine T_enum (by tb_rel) fun e i => ?_
  repeat nest_cls
  refine T_iter_enum (by tb_rel) ?_
  refine Tc_pick (L' := (e, enumIt i 0 .none) :: (i, lsIt lr 0) :: (F, .nf f) :: (cl, .ls cvs) :: (lr, .ls ws) :: L) (by kct_strs) ?_
  refine Tc_for_enum (l := lr) (vs := ws) (fun ι => InvN ((lr, .ls ws) :: L) F cl f) (fun ι ι I => by cases I; exact M2) ?turn ?fin .head .head (.mk (cs := [6004, 1075, 1730, 61, 65]) Kept.refl rfl hc)
  case fin =>
    intro L' I
    cases I with | @mk f' cvs cs hk h5 hcv =>
    exact T_nil (T_pick (.cons .head (.cons .head (.skip .refl))) (h f' cvs cs hk h5 hcv))
  case turn =>
    intro p k tk x X Y L' hx I
    cases I with | @mk f' cvs cs hk h5 hcv =>
    refine (intsAre_val hI' hx).elim fun z hz => hz.elim fun tz hz => ?_
    subst hz
    have e2' := kept_ap hk rfl e2
    have h5' : k % 5 < cs.length := by rw [h5]; exact Nat.mod_lt _ (by decide)
    have hlc := intsAre_len hcv
    rw [List.length_map] at hlc
    repeat nest_cls
    refine T_hAugSub (T_s_AugSub (fun ι ι ι => rfl) ?_)
    repeat nest_cls
    refine (natsAre_at hcv h5').elim fun tc hc => ?_
    rw [fm5]
    refine T_getItem_ls (by tb_rel) (Int.natCast_nonneg _) (Int.lt_of_lt_of_le (Int.ofNat_lt.mpr h5') (by rw [h5]; decide)) (by rw [Int.toNat_natCast]; exact hc) ?_
    repeat nest_cls
    refine T_pow (by decide) (by decide) (by decide) fun k1 => ?_
    repeat nest_cls
    refine T_setItem (by tb_start) (Int.natCast_nonneg _) (by rw [hlc]; exact Int.ofNat_lt.mpr h5') (by rw [hlc, h5]; decide) ?_
    repeat nest_cls
    rw [Int.toNat_natCast, show Int.toNat 6 = 6 from rfl]
    have z0 : 0 ≤ z.fmod ((10 : Int) ^ 6) := Int.fmod_nonneg_of_pos _ (by decide)
    have e : (cs.set (k % 5) (cs[k % 5] + (z.fmod ((10 : Int) ^ 6)).toNat)).map ci = (cs.map ci).set (k % 5) ((cs[k % 5] : Nat) + z.fmod ((10 : Int) ^ 6)) := by
      rw [List.map_set]
      congr 1
      show ((cs[k % 5] + (z.fmod ((10 : Int) ^ 6)).toNat : Nat) : Int) = _
      rw [Int.natCast_add, Int.toNat_of_nonneg z0]
    exact ⟨(F, _) :: (cl, _) :: (lr, .ls ws) :: L, by kct_strs, .mk (cs := cs.set (k % 5) (cs[k % 5] + (z.fmod ((10 : Int) ^ 6)).toNat)) (kept_up (by tb_rel) (kept_up (by tb_rel) hk)) (by rw [List.length_set]; exact h5) (e ▸ intsAre_set hcv _ _ _)⟩
end
end New
namespace New
noncomputable def textW (P : Params) : List Stmt := forB (nB (bodyFrom P 9) 0)
section
variable {B : Bg} {n : Nat} {L : Led} {env : Env} {F d : Addr} {c : Nat → Addr} {f : Str → Option Value} {Q : Flow → Led → Prop} {v : List Value} {hh : List Nat} {seed k kd : Nat} {t u : Tok} {mk bk wd tx : List Nat} {o2 : Option Value}
set_option maxHeartbeats 4000000
theorem s8 (E : EnvIs env lawKs F (lawCl c)) (h : ∀ t, T B n (execs (bodyFrom B.w.params 9) env) ((F, .nf (up f "text" (.str (toS []) t))) :: L) Q) : T B n (execs (bodyFrom B.w.params 8) env) ((F, .nf f) :: L) Q := by
  refine T_from rfl ?_
  repeat nest_cls
  rw [← toS_nil]
  exact h _
inductive InvQ (L : Led) (hh : List Nat) : List Value → List Value → Led → Prop
  | mk {r av : List Value} {dn td : List Nat} : hh = dn ++ td → IntsAre r (td.map ci) → IntsAre av (dn.map fun i : Nat => (2 : Int) ^ i) → InvQ L hh r av L
theorem kind_ok : ((seed : Int).fdiv ((3 ^ k : Nat) : Int)).fmod 3 = ((kindOf seed k : Nat) : Int) := by
  rw [Int.fdiv_eq_ediv_of_nonneg _ (Int.natCast_nonneg _), Int.fmod_eq_emod_of_nonneg _ (by decide)]; rfl
theorem pow_ok : ((3 : Int) ^ ((k : Int)).toNat) = ((3 ^ k : Nat) : Int) := by rw [Int.toNat_natCast, Int.natCast_pow]; rfl
theorem pow_le : ∀ k < 4, 3 ^ k ≤ 27 := by decide
theorem x_0 (O : Our B) (E : EnvIs env lawKs F (lawCl c)) (e1 : f "one" = some (.ref d)) (e2 : f "seed" = some (.int ((seed : Nat) : Int) t)) (e3 : f "place" = some (.int ((k : Nat) : Int) u)) (hm : (d, .ls v) ∈ L) (hi : IntsAre v (hh.map ci)) (hk : DrOk hh) (hl : hh.length ≤ 4) (hk4 : k < 4)
    (h : ∀ tw tk, T B (n + 10) (execs ((textW B.w.params).drop 1) env) ((F, .nf (up (up f "kind" (.int ((kindOf seed k : Nat) : Int) tk)) "word" (.str (toS (wordL hh)) tw))) :: L) Q) : T B (n + 10) (execs ((textW B.w.params).drop 0) env) ((F, .nf f) :: L) Q := by
  refine T_fr rfl ?_
  repeat nest_cls
  refine T_ListComp [("hue", .local)] [] [("hue", none)] E (by kst_allIn) (of_decide_eq_true rfl) rfl rfl rfl (by kst_allIn) (by kst_allIn) rfl rfl (fun ι => rfl) ?_
  repeat nest_cls
  refine T_iter_ls (by tb_rel) fun it => ?_
  intro acc C cenv E'
  refine ⟨self_ls (by tb_rel), ?_⟩
  refine Tc_pick (L' := (C, .ns [("hue", none)]) :: (acc, .ls []) :: (it, lsIter d 0) :: (F, .nf f) :: L) (by kct_strs) ?_
  refine Tc_comp_i (n := n + 9) itr_ls (InvQ ((F, .nf f) :: L) hh) (fun ι ι ι I => by cases I; exact .tail _ hm) ?hz (fun ι ι => rfl) ?turn ?fin (.mk (dn := []) rfl hi .nil)
  case hz =>
    intro r av R I
    cases I with | @mk dn td e1 e2 e3 =>
    rw [intsAre_len e3, List.length_map]
    exact Nat.le_trans (Nat.le_trans (by rw [e1, List.length_append]; exact Nat.le_add_right _ _) hl) (by decide)
  case turn =>
    intro ia X x rest o av R I
    cases I with | @mk dn td e1 e2 e3 =>
    cases td with
    | nil => cases e2
    | cons z td =>
      cases e2 with | cons _ tz e2 =>
      have hz := hk.b z (by rw [e1]; exact List.mem_append_right _ (.head _))
      repeat nest_cls
      refine T_shl (Int.natCast_nonneg z) (Int.le_trans (Int.ofNat_le.mpr (Nat.le_of_lt hz)) (by decide)) (by decide) fun k1 => ?_
      exact ⟨_, _, .cons R1 (.cons .head (.cons .head .refl)), .mk (dn := dn ++ [z]) (by rw [e1, List.append_assoc]; rfl) e2 (intsAre_comp e3)⟩
  case fin =>
    intro o av R I
    cases I with | @mk dn td e1 e2 e3 =>
    have ht : td = [] := by cases td with | nil => rfl | cons z r => cases e2
    rw [ht, List.append_nil] at e1
    subst e1
    refine ⟨_, _, by tb_start, List.cons_ne_nil _ _, ?_⟩
    repeat nest_cls
    refine T_sum (by tb_rel) e3 fun k2 => ?_
    rw [maskN_sum]
    repeat nest_cls
    refine c_flags O hk.lt hk.b (Nat.le_trans hl (by decide)) rfl fun tw => ?_
    rw [← toS_wordL]
    repeat nest_cls
    refine T_pow (Int.natCast_nonneg _) (by omega) (by decide) fun k3 => ?_
    have p3 := pow_le k hk4
    have q3 : 0 < 3 ^ k := Nat.pow_pos (by decide)
    rw [pow_ok]
    refine T_fdiv (Int.ne_of_gt (Int.ofNat_lt.mpr q3)) (PyProof.noPylong_small (by omega)) fun k4 => ?_
    repeat nest_cls
    rw [kind_ok]
    exact T_pick (by kct_strs) (h _ _)
theorem x_1 (E : EnvIs env lawKs F (lawCl c)) (e1 : f "kind" = some (.int ((kd : Nat) : Int) t)) (hkd : kd < 3)
    (h : ∀ t1 t2, T B (n + 10) (execs ((textW B.w.params).drop 2) env) ((F, .nf (up f "mark" (.str (toS (markL kd)) t1))) :: (c 2, .ce (some (.str (toS (backL kd)) t2))) :: L) Q) : T B (n + 10) (execs ((textW B.w.params).drop 1) env) ((F, .nf f) :: (c 2, .ce o2) :: L) Q := by
  refine T_fr rfl ?_
  match kd, hkd with
  | 0, _ =>
    rw [show toS (markL 0) = Str.ofString "\"" from by decide +kernel, show toS (backL 0) = Str.ofString "" from by decide +kernel] at h
    repeat nest_cls
    refine D_yes (by decide) ?_
    repeat nest_cls
    refine D_no (by decide) ?_
    repeat nest_cls
    exact T_pick (by kct_strs) (h _ _)
  | 1, _ =>
    rw [show toS (markL 1) = Str.ofString "\"" from by decide +kernel, show toS (backL 1) = Str.ofString "\\" from by decide +kernel] at h
    repeat nest_cls
    refine D_yes (by decide) ?_
    repeat nest_cls
    refine D_yes (by decide) ?_
    repeat nest_cls
    exact T_pick (by kct_strs) (h _ _)
  | 2, _ =>
    rw [show toS (markL 2) = Str.ofString "" from by decide +kernel, show toS (backL 2) = Str.ofString "\\" from by decide +kernel] at h
    repeat nest_cls
    refine D_no (by decide) ?_
    repeat nest_cls
    refine D_yes (by decide) ?_
    repeat nest_cls
    exact T_pick (by kct_strs) (h _ _)
inductive InvS (w bk : List Nat) : List Nat → List Value → Prop
  | mk {r : List Nat} {av : List Value} {dn : List Nat} : w = dn ++ r → StrsAre av (dn.map fun cc => toS (bk ++ [cc])) → InvS w bk r av
theorem seg_len {a b w s : List Nat} (h : a.length ≤ 1) (h2 : b.length ≤ 1) (h3 : w.length ≤ 80) (h4 : s.length ≤ 2) : (w.flatMap fun cc => b ++ [cc]).length ≤ 160 ∧ (a ++ (w.flatMap fun cc => b ++ [cc])).length ≤ 161 ∧ (a ++ (w.flatMap fun cc => b ++ [cc]) ++ a).length ≤ 162 ∧ (a ++ (w.flatMap fun cc => b ++ [cc]) ++ a ++ s).length ≤ 164 := by
  have h5 := Nat.le_trans (flat_len b h2 w) (Nat.mul_le_mul_left 2 h3)
  have h6 : (a ++ (w.flatMap fun cc => b ++ [cc])).length ≤ 161 := by rw [List.length_append, Nat.add_comm]; exact Nat.add_le_add h5 h
  have h7 : (a ++ (w.flatMap fun cc => b ++ [cc]) ++ a).length ≤ 162 := by rw [List.length_append]; exact Nat.add_le_add h6 h
  exact ⟨h5, h6, h7, by rw [List.length_append]; exact Nat.add_le_add h7 h4⟩
theorem sep_ok : ((seed : Int).fdiv 81 + (k : Int)).fmod 4 = (((seed / 81 + k) % 4 : Nat) : Int) := by
  rw [Int.fdiv_eq_ediv_of_nonneg _ (by decide), Int.fmod_eq_emod_of_nonneg _ (by decide)]; rfl
theorem x_2 (O : Our B) (E : EnvIs env lawKs F (lawCl c)) {t1 t2 t3 t4 t5 t6 : Tok} (e1 : f "mark" = some (.str (toS mk) t1)) (e2 : f "word" = some (.str (toS wd) t2)) (e3 : f "text" = some (.str (toS tx) t3)) (e4 : f "seed" = some (.int ((seed : Nat) : Int) t4)) (e5 : f "place" = some (.int ((k : Nat) : Int) t5)) (hc : (c 2, .ce (some (.str (toS bk) t6))) ∈ L)
    (hm : mk.length ≤ 1) (hb : bk.length ≤ 1) (hw : wd.length ≤ 80) (ht : tx.length ≤ 800)
    (h : ∀ t, Q .next ((F, .nf (up f "text" (.str (toS (tx ++ (mk ++ (wd.flatMap fun cc => bk ++ [cc]) ++ mk ++ sepL ((seed / 81 + k) % 4)))) t))) :: L)) : T B (n + 10) (execs ((textW B.w.params).drop 2) env) ((F, .nf f) :: L) Q := by
  have hl := seg_len hm hb hw (sepL_len ((seed / 81 + k) % 4))
  have z : ∀ {a b : List Nat}, a.length ≤ 800 → b.length ≤ 200 → (toS a).length + (toS b).length ≤ sizeLine := fun h1 h2 => by rw [toS_len, toS_len]; exact szk (Nat.add_le_add h1 h2)
  refine T_weak (T_fr rfl ?_)
  repeat nest_cls
  refine ⟨_, cal_str PySem.F.slot_str_join PySem.F.type_str_join, ?_⟩
  repeat nest_cls
  refine T_ListComp [("sign", .local), ("back", .cell)] [("back", c 2)] [("sign", none)] E (by kst_allIn) (of_decide_eq_true rfl) rfl rfl rfl (by kst_allIn) (by kst_allIn) rfl rfl (fun ι => rfl) ?_
  repeat nest_cls
  refine T_iter_str fun it ty hty => ?_
  intro acc C cenv E'
  refine ⟨self_str hty (by tb_rel), ?_⟩
  refine Tc_comp_sone hty (InvS wd bk) ?hz (fun ι ι => rfl) ?turn ?fin (.mk (dn := []) rfl .nil)
  case hz =>
    intro r av I
    cases I with | @mk dn g1 g2 =>
    rw [strsAre_len g2, List.length_map]
    exact Nat.le_trans (Nat.le_trans (by rw [g1, List.length_append]; exact Nat.le_add_right _ _) hw) (by decide)
  case turn =>
    intro ia X' cc kc rest o av I
    cases I with | @mk dn g1 g2 =>
    repeat nest_cls
    refine T_addS (szk (by rw [toS_len, sg_len]; exact Nat.le_trans (Nat.succ_le_succ hb) (by decide))) fun k1 => ?_
    rw [toS_snoc]
    exact ⟨_, by kct_strs, .mk (dn := dn ++ [cc]) (by rw [g1, List.append_assoc]; rfl) (by rw [List.map_append]; exact strsAre_append g2 (.cons _ _ .nil))⟩
  case fin =>
    intro o av I
    cases I with | @mk dn g1 g2 =>
    rw [List.append_nil] at g1
    subst g1
    refine ⟨_, _, by tb_start, List.cons_ne_nil _ _, ?_⟩
    repeat nest_cls
    refine T_join (by tb_rel) g2 (by decide) (join_bound bk hb _ (Nat.le_trans hw (by decide))) fun kj => ?_
    rw [joinE]
    repeat nest_cls
    refine T_addS (z (Nat.le_trans hm (by decide)) (Nat.le_trans hl.1 (by decide))) fun ka => ?_
    rw [toS_app]
    repeat nest_cls
    refine T_addS (z (Nat.le_trans hl.2.1 (by decide)) (Nat.le_trans hm (by decide))) fun kb => ?_
    rw [toS_app]
    repeat nest_cls
    have e7 : (seed / 81 + k) % 4 < 4 := Nat.mod_lt _ (by decide)
    rw [sep_ok]
    refine T_sepItem (by tb_rel) e7 rfl fun tq => ?_
    refine T_addS (z (Nat.le_trans hl.2.2.1 (by decide)) (Nat.le_trans (sepL_len _) (by decide))) fun kc => ?_
    rw [toS_app]
    repeat nest_cls
    refine T_iaddS (z ht (Nat.le_trans hl.2.2.2 (by decide))) fun kd => ?_
    rw [toS_app]
    repeat nest_cls
    exact T_nl rfl ⟨_, by kct_strs, h _⟩
theorem mark_len (kd : Nat) : (markL kd).length ≤ 1 := by unfold markL; split <;> decide
theorem back_len (kd : Nat) : (backL kd).length ≤ 1 := by unfold backL; split <;> decide
inductive InvT (L : Led) (F : Addr) (c2 : Addr) (f : Str → Option Value) (seed : Nat) (ds : List (List Nat)) (k : Nat) : Led → Prop
  | mk {f' : Str → Option Value} {t : Tok} {o : Option Value} : Kept ["place", "one", "word", "kind", "mark", "text"] f f' → f' "text" = some (.str (toS (textN seed ds k)) t) → InvT L F c2 f seed ds k ((F, .nf f') :: (c2, .ce o) :: L)
theorem s9 (O : Our B) (E : EnvIs env lawKs F (lawCl c)) {dl d0 d1 d2 d3 : Addr} {v0 v1 v2 v3 : List Value} {h0 h1 h2 h3 : List Nat} {ts tt : Tok} (e1 : f "drawn" = some (.ref dl)) (e2 : f "seed" = some (.int ((seed : Nat) : Int) ts)) (e3 : f "text" = some (.str (toS []) tt)) (hdl : (dl, .ls [.ref d0, .ref d1, .ref d2, .ref d3]) ∈ L)
    (m0 : (d0, .ls v0) ∈ L) (m1 : (d1, .ls v1) ∈ L) (m2 : (d2, .ls v2) ∈ L) (m3 : (d3, .ls v3) ∈ L) (i0 : IntsAre v0 (h0.map ci)) (i1 : IntsAre v1 (h1.map ci)) (i2 : IntsAre v2 (h2.map ci)) (i3 : IntsAre v3 (h3.map ci)) (k0 : DrOk h0) (k1 : DrOk h1) (k2 : DrOk h2) (k3 : DrOk h3) (l0 : h0.length ≤ 4) (l1 : h1.length ≤ 4) (l2 : h2.length ≤ 4) (l3 : h3.length ≤ 4)
    (h : ∀ f' t o, Kept ["place", "one", "word", "kind", "mark", "text"] f f' → f' "text" = some (.str (toS (textN seed [h0, h1, h2, h3] 4)) t) → T B (n + 10) (execs (bodyFrom B.w.params 10) env) ((F, .nf f') :: (c 2, .ce o) :: L) Q) : T B (n + 10) (execs (bodyFrom B.w.params 9) env) ((F, .nf f) :: (c 2, .ce o2) :: L) Q := by
  have hds : ∀ (k : Nat) (x : Value), ([.ref d0, .ref d1, .ref d2, .ref d3] : List Value)[k]? = some x → k < 4 ∧ ∃ d v hh, x = .ref d ∧ (d, It.ls v) ∈ L ∧ IntsAre v (hh.map ci) ∧ [h0, h1, h2, h3].getD k [] = hh ∧ DrOk hh ∧ hh.length ≤ 4 := by
    intro k x e
    match k, e with
    | 0, e => cases e; exact ⟨by decide, d0, v0, h0, rfl, m0, i0, rfl, k0, l0⟩
    | 1, e => cases e; exact ⟨by decide, d1, v1, h1, rfl, m1, i1, rfl, k1, l1⟩
    | 2, e => cases e; exact ⟨by decide, d2, v2, h2, rfl, m2, i2, rfl, k2, l2⟩
    | 3, e => cases e; exact ⟨by decide, d3, v3, h3, rfl, m3, i3, rfl, k3, l3⟩
  have hlen : ∀ k, (wordL ([h0, h1, h2, h3].getD k [])).length ≤ 80 := by
    intro k
    match k with
    | 0 => exact wordL_len k0.b l0
    | 1 => exact wordL_len k1.b l1
    | 2 => exact wordL_len k2.b l2
    | 3 => exact wordL_len k3.b l3
    | k + 4 => exact wordL_len (h := []) (fun ι hx => nomatch hx) (by decide)
  refine T_from rfl ?_
  repeat nest_cls
  refine T_enum (by tb_rel) fun e i => ?_
  repeat nest_cls
  refine T_iter_enum (by tb_rel) ?_
  refine Tc_pick (L' := (e, enumIt i 0 .none) :: (i, lsIt dl 0) :: (F, .nf f) :: (c 2, .ce o2) :: L) (by kct_strs) ?_
  refine Tc_for_enum (l := dl) (vs := [.ref d0, .ref d1, .ref d2, .ref d3]) (InvT L F (c 2) f seed [h0, h1, h2, h3]) (fun ι ι I => by cases I; exact J1 (J1 hdl)) ?turn (fun L' I => T_nil (by cases I with | mk hk ht => exact h _ _ _ hk ht)) .head .head (.mk (k := 0) Kept.refl e3)
  intro p k tk x X Y L' hx I
  cases I with | @mk f' t o hk ht =>
  refine (hds k x hx).2.elim fun d hd => hd.elim fun v hd => hd.elim fun hh hd => ?_
  have hk4 := (hds k x hx).1
  have ex := hd.1
  subst ex
  have e2' := kept_ap hk rfl e2
  iterate 8 nest_cls
  refine T_pick (L' := (F, .nf (up (up f' "place" (.int ((k : Nat) : Int) tk)) "one" (.ref d))) :: (c 2, .ce o) :: (e, X) :: (i, Y) :: L) (by kct_strs) ?_
  refine x_0 O E up_eq (up_ne rfl (up_ne rfl e2')) (up_ne rfl up_eq) (J1 (J1 (J1 hd.2.1))) hd.2.2.1 hd.2.2.2.2.1 hd.2.2.2.2.2 hk4 fun tw tk2 => ?_
  refine x_1 E (up_ne rfl up_eq) (Nat.mod_lt _ (by decide)) fun t1 t2 => ?_
  have hN1 : textN seed [h0, h1, h2, h3] (k + 1) = textN seed [h0, h1, h2, h3] k ++ segL seed k (wordL hh) := by
    show textN seed _ k ++ segL seed k (wordL ([h0, h1, h2, h3].getD k [])) = _
    rw [hd.2.2.2.1]
  refine x_2 O E up_eq (up_ne rfl up_eq) (up_ne rfl (up_ne rfl (up_ne rfl (up_ne rfl (up_ne rfl ht))))) (up_ne rfl (up_ne rfl (up_ne rfl (up_ne rfl (up_ne rfl e2'))))) (up_ne rfl (up_ne rfl (up_ne rfl (up_ne rfl up_eq)))) (.head _) (mark_len _) (back_len _) (by rw [← hd.2.2.2.1]; exact hlen k) (Nat.le_trans (textN_len seed _ hlen k) (by omega)) fun t => ?_
  refine loop_next ⟨_, .cons R2 (.cons R2 .refl), .mk (t := t) ?_ ?_⟩
  · exact kept_up (by tb_rel) (kept_up (by tb_rel) (kept_up (by tb_rel) (kept_up (by tb_rel) (kept_up (by tb_rel) (kept_up (by tb_rel) hk)))))
  · rw [hN1]; exact up_eq
end
end New
namespace New
structure LawF (f : Str → Option Value) (seed big : Nat) (dl : Addr) (tt : List Nat) : Prop where
  fs : ∃ t, f "seed" = some (.int ((seed : Nat) : Int) t)
  fb : ∃ t, f "big" = some (.int ((big : Nat) : Int) t)
  fd : f "drawn" = some (.ref dl)
  ft : ∃ t, f "text" = some (.str (toS tt) t)
structure LawL (c : Nat → Addr) (L : Led) (mid : Nat) (dl d0 d1 d2 d3 nl : Addr) (h0 h1 h2 h3 : List Nat) : Prop where
  c0 : ∃ t, (c 0, It.ce (some (.int ((mid : Nat) : Int) t))) ∈ L
  c1 : (c 1, It.ce (some (.ref nl))) ∈ L
  hnl : LsW L nl flagNames
  hdl : (dl, It.ls [.ref d0, .ref d1, .ref d2, .ref d3]) ∈ L
  i0 : LsN L d0 h0
  i1 : LsN L d1 h1
  i2 : LsN L d2 h2
  i3 : LsN L d3 h3
structure LawD (big mid : Nat) (h0 h1 h2 h3 : List Nat) : Prop where
  k0 : DrOk h0
  k1 : DrOk h1
  k2 : DrOk h2
  k3 : DrOk h3
  l0 : h0.length = big
  l1 : h1.length = mid
  l2 : h2.length ≤ mid
  l3 : h3.length ≤ mid
  b2 : 2 ≤ big
  b4 : big ≤ 4
  mb : mid ≤ big
section
variable {B : Bg} {n : Nat} {L L' : Led} {env : Env} {F : Addr} {c : Nat → Addr} {f f' : Str → Option Value} {Q : Flow → Led → Prop} {seed big mid : Nat} {dl d0 d1 d2 d3 nl : Addr} {h0 h1 h2 h3 tt : List Nat}
set_option maxHeartbeats 4000000
theorem LawL.mono (s : Sub L L') (K : LawL c L mid dl d0 d1 d2 d3 nl h0 h1 h2 h3) : LawL c L' mid dl d0 d1 d2 d3 nl h0 h1 h2 h3 :=
  ⟨K.c0.elim fun t h => ⟨t, s _ h⟩, s _ K.c1, K.hnl.mono s, s _ K.hdl, K.i0.mono s, K.i1.mono s, K.i2.mono s, K.i3.mono s⟩
theorem LawF.kept {ns : List Str} (k : Kept ns f f') (K : LawF f seed big dl tt) (h : ((["seed", "big", "drawn", "text"] : List Str).all fun y => !(ns.contains y)) = true) : LawF f' seed big dl tt := by
  have h' : ∀ y ∈ (["seed", "big", "drawn", "text"] : List Str), ns.contains y = false := fun y hy => Bool.not_eq_true' _ ▸ List.all_eq_true.mp h y hy
  exact ⟨K.fs.elim fun t e => ⟨t, kept_ap k (h' _ (.head _)) e⟩, K.fb.elim fun t e => ⟨t, kept_ap k (h' _ M1) e⟩, kept_ap k (h' _ M2) K.fd, K.ft.elim fun t e => ⟨t, kept_ap k (h' _ M3) e⟩⟩
theorem LawF.up {x : Str} {v : Value} (K : LawF f seed big dl tt) (h : ((["seed", "big", "drawn", "text"] : List Str).all fun y => !(([x] : List Str).contains y)) = true) : LawF (Mine.Internal.up f x v) seed big dl tt := K.kept (kept_up (.head _) Kept.refl) h
theorem mid_ok {big x : Nat} (h2 : 2 ≤ big) (h4 : big ≤ 4) : 1 + x % min 3 big ≤ 3 ∧ 1 + x % min 3 big ≤ big := by
  have : x % min 3 big < min 3 big := Nat.mod_lt _ (by omega)
  omega
theorem ja (O : Our B) (E : EnvIs env lawKs F (lawCl c)) {sc : Addr} {svs : List Value} {sns : List Int} (e0 : f "script" = some (.ref sc)) (hT : ∀ L, TyIs B L (.ref sc) "list") (hS : ∀ L s, St B L s → s.heap.IsList sc svs.toArray) (hI : IntsAre svs sns) (hl : svs.length ≤ 16384)
    (h : ∀ (f' : Str → Option Value) (seed big mid : Nat) (dl d0 d1 d2 d3 nl : Addr) (h0 h1 h2 h3 : List Nat) (L' : Led), LawF f' seed big dl (textN seed [h0, h1, h2, h3] 4) → LawL c L' mid dl d0 d1 d2 d3 nl h0 h1 h2 h3 → LawD big mid h0 h1 h2 h3 →
      T B (n + 10) (execs (bodyFrom B.w.params 10) env) ((F, .nf f') :: (c 3, .ce none) :: (c 4, .ce none) :: (c 5, .ce none) :: (c 6, .ce none) :: (c 7, .ce none) :: (c 8, .ce none) :: L') Q) :
    T B (n + 10) (execs (bodyFrom B.w.params 0) env) ((F, .nf f) :: (c 8, .ce none) :: (c 7, .ce none) :: (c 6, .ce none) :: (c 5, .ce none) :: (c 4, .ce none) :: (c 3, .ce none) :: (c 2, .ce none) :: (c 1, .ce none) :: (c 0, .ce none) :: L) Q := by
  refine T_pick (L' := (F, .nf f) :: (c 0, .ce none) :: (c 1, .ce none) :: (c 2, .ce none) :: (c 3, .ce none) :: (c 4, .ce none) :: (c 5, .ce none) :: (c 6, .ce none) :: (c 7, .ce none) :: (c 8, .ce none) :: L) (by kct_strs) ?_
  refine s0 E fun cl cvs hcv => s1 (n := n + 9) O E (up_ne rfl e0) up_eq hcv hT hS hI hl fun f1 cvs cs k1 h5 hcv => ?_
  have g1 := kept_ap k1 rfl (up_eq (f := f) (x := "cells") (v := .ref cl))
  match cs, h5, hcv with
  | [x0, x1, x2, x3, x4], _, hcv =>
  obtain ⟨t0, t1, t2, t3, t4, rfl⟩ := intsAre5 hcv
  generalize hR : (c 3, It.ce none) :: (c 4, .ce none) :: (c 5, .ce none) :: (c 6, .ce none) :: (c 7, .ce none) :: (c 8, .ce none) :: L = R
  refine s2 O E g1 (.head _) fun tb => ?_
  have hb2 : 2 ≤ 2 + x0 % 3 := Nat.le_add_right _ _
  have hb4 : 2 + x0 % 3 ≤ 4 := Nat.add_le_add_left (Nat.le_of_lt_succ (Nat.mod_lt _ (by decide))) 2
  generalize 2 + x0 % 3 = big at hb2 hb4
  refine T_pick (.cons .head (.cons R1 .refl)) (s3 O E (up_ne rfl (up_ne rfl g1)) (up_ne rfl up_eq) hb2 (.head _) fun tm => ?_)
  have hm := mid_ok (x := x1) hb2 hb4
  generalize 1 + x1 % min 3 big = mid at hm
  have p1 : up (up f1 "big" (.int ((big : Nat) : Int) tb)) "seed" (.int ((x4 : Nat) : Int) t4) "cells" = some (.ref cl) := up_ne rfl (up_ne rfl g1)
  have p2 : up (up f1 "big" (.int ((big : Nat) : Int) tb)) "seed" (.int ((x4 : Nat) : Int) t4) "big" = some (.int ((big : Nat) : Int) tb) := up_ne rfl up_eq
  have p3 : up (up f1 "big" (.int ((big : Nat) : Int) tb)) "seed" (.int ((x4 : Nat) : Int) t4) "seed" = some (.int ((x4 : Nat) : Int) t4) := up_eq
  generalize up (up f1 "big" (.int ((big : Nat) : Int) tb)) "seed" (.int ((x4 : Nat) : Int) t4) = f2 at p1 p2 p3
  refine s4 O E p1 p2 (.head _) M1 hb4 hm.1 fun dl d0 d1 v0 v1 h0 h1 i0 i1 k0 k1 l0 l1 => ?_
  refine s5 O E (up_ne rfl p1) up_eq M2 M3 hm.1 fun d2 d3 v2 v3 h2 h3 i2 i3 k2 k3 l2 l3 ι ι => ?_
  refine T_pick (L' := (F, .nf _) :: (c 1, .ce none) :: (dl, .ls [.ref d0, .ref d1, .ref d2, .ref d3]) :: (d0, .ls v0) :: (d1, .ls v1) :: (d2, .ls v2) :: (d3, .ls v3) :: (c 0, .ce (some (.int ((mid : Nat) : Int) tm))) :: (c 2, .ce none) :: R) (by kct_strs) (s6 E fun nl nv hnv => s8 E fun tx => ?_)
  refine T_pick (L' := (F, .nf _) :: (c 2, .ce none) :: (dl, .ls [.ref d0, .ref d1, .ref d2, .ref d3]) :: (d0, .ls v0) :: (d1, .ls v1) :: (d2, .ls v2) :: (d3, .ls v3) :: (c 0, .ce (some (.int ((mid : Nat) : Int) tm))) :: (c 1, .ce (some (.ref nl))) :: (nl, .ls nv) :: R) (by kct_strs) ?_
  have D : LawD big mid h0 h1 h2 h3 := ⟨k0, k1, k2, k3, l0, l1, l2, l3, hb2, hb4, hm.2⟩
  refine s9 O E (up_ne rfl up_eq) (up_ne rfl (up_ne rfl (up_ne rfl p3))) up_eq (.head _) M1 M2 M3 M4 i0 i1 i2 i3 k0 k1 k2 k3 (l0 ▸ hb4) (l1 ▸ Nat.le_trans hm.2 hb4) (Nat.le_trans l2 (Nat.le_trans hm.2 hb4)) (Nat.le_trans l3 (Nat.le_trans hm.2 hb4)) fun f3 t3 o k4 et => ?_
  subst hR
  refine T_pick (L' := (F, .nf f3) :: (c 3, .ce none) :: (c 4, .ce none) :: (c 5, .ce none) :: (c 6, .ce none) :: (c 7, .ce none) :: (c 8, .ce none) :: (c 2, .ce o) :: (dl, .ls [.ref d0, .ref d1, .ref d2, .ref d3]) :: (d0, .ls v0) :: (d1, .ls v1) :: (d2, .ls v2) :: (d3, .ls v3) :: (c 0, .ce (some (.int ((mid : Nat) : Int) tm))) :: (c 1, .ce (some (.ref nl))) :: (nl, .ls nv) :: L) (by kct_strs) ?_
  exact h f3 x4 big mid dl d0 d1 d2 d3 nl h0 h1 h2 h3 _ ⟨⟨_, kept_ap k4 rfl (up_ne rfl (up_ne rfl (up_ne rfl p3)))⟩, ⟨_, kept_ap k4 rfl (up_ne rfl (up_ne rfl (up_ne rfl p2)))⟩, kept_ap k4 rfl (up_ne rfl up_eq), ⟨_, et⟩⟩
    ⟨⟨tm, M6⟩, M7, ⟨nv, J8 (.head _), hnv⟩, M1, ⟨v0, M2, i0⟩, ⟨v1, M3, i1⟩, ⟨v2, M4, i2⟩, ⟨v3, M5, i3⟩⟩ D
end
end New
namespace New
section
variable {B : Bg} {n : Nat} {L : Led} {env : Env} {F : Addr} {c : Nat → Addr} {f : Str → Option Value} {Q : Flow → Led → Prop}
set_option maxHeartbeats 4000000
theorem s14 (O : Our B) (E : EnvIs env lawKs F (lawCl c)) {nl rl r0 r1 r2 r3 : Addr} {seed : Nat} {ts : Tok} {o5 : Option Value} {h0 h1 h2 h3 : List Nat} (e1 : f "rows" = some (.ref rl)) (e2 : f "seed" = some (.int ((seed : Nat) : Int) ts)) (k1 : (c 1, It.ce (some (.ref nl))) ∈ L) (hnl : LsW L nl flagNames) (hrl : (rl, It.ls [.ref r0, .ref r1, .ref r2, .ref r3]) ∈ L)
    (q0 : LsW L r0 (h0.map nameOf)) (q1 : LsW L r1 (h1.map nameOf)) (q2 : LsW L r2 (h2.map nameOf)) (q3 : LsW L r3 (h3.map nameOf)) (b0 : ∀ y ∈ h0 ++ h1 ++ h2 ++ h3, y < 16) (l0 : h0.length ≤ 4) (l1 : h1.length ≤ 4) (l2 : h2.length ≤ 4) (l3 : h3.length ≤ 4)
    (h : ∀ (hd : Addr) (kvs : List (Str × Value)), (hd == sysModules) = false → HuesD kvs (h0 ++ h1 ++ h2 ++ h3) → T B (n + 10) (execs (bodyFrom B.w.params 15) env) ((F, .nf f) :: (c 5, .ce (some (.ref hd))) :: (hd, dS B kvs) :: L) Q) :
    T B (n + 10) (execs (bodyFrom B.w.params 14) env) ((F, .nf f) :: (c 5, .ce o5) :: L) Q := by
  refine q0.elim fun v0 q0 => q1.elim fun v1 q1 => q2.elim fun v2 q2 => q3.elim fun v3 q3 => hnl.elim fun nv hn => ?_
  have z0 := strsAre_len q0.2
  have z1 := strsAre_len q1.2
  have z2 := strsAre_len q2.2
  have z3 := strsAre_len q3.2
  rw [List.length_map] at z0 z1 z2 z3
  have m0 := q0.1
  have m1 := q1.1
  have m2 := q2.1
  have m3 := q3.1
  have mn := hn.1
  refine T_from rfl ?_
  repeat nest_cls
  refine T_addList (by tb_rel) (by tb_rel) (szk (by omega)) fun a1 => ?_
  repeat nest_cls
  refine T_addList (by tb_rel) (by tb_rel) (szk (by rw [List.length_append]; omega)) fun a2 => ?_
  repeat nest_cls
  refine T_addList (by tb_rel) (by tb_rel) (szk (by rw [List.length_append, List.length_append]; omega)) fun a3 => ?_
  repeat nest_cls
  refine c_told O (by tb_rel) hn.2 (by tb_rel) (us := h0 ++ h1 ++ h2 ++ h3) ?sa b0 ?sc fun hd kvs hsm hH hkl => ?_
  case sa => rw [List.map_append, List.map_append, List.map_append]; exact strsAre_append (strsAre_append (strsAre_append q0.2 q1.2) q2.2) q3.2
  case sc => simp only [List.length_append]; omega
  repeat nest_cls
  exact T_pick (.cons (.tail (.tail (.tail (.tail (.tail .head))))) (.cons .head (.cons .head (.skip (.skip (.skip .refl)))))) (h hd kvs hsm hH)
theorem s15 (O : Our B) (E : EnvIs env lawKs F (lawCl c)) {hd : Addr} {kvs : List (Str × Value)} {us : List Nat} (k5 : (c 5, It.ce (some (.ref hd))) ∈ L) (hk : (hd, dS B kvs) ∈ L) (hsm : (hd == sysModules) = false) (hH : HuesD kvs us) (hne : us ≠ [])
    (h : T B (n + 10) (execs (bodyFrom B.w.params 16) env) ((F, .nf f) :: L) Q) : T B (n + 10) (execs (bodyFrom B.w.params 15) env) ((F, .nf f) :: L) Q := by
  refine T_from rfl ?_
  repeat nest_cls
  refine ⟨_, cal_values (.tail _ hk), ?_⟩
  repeat nest_cls
  refine T_values (.tail _ hk) hsm fun vw => ?_
  repeat nest_cls
  refine T_minVals (.tail _ (.tail _ hk)) (.head _) (hH.ne hne) (fun p hp => ?_) fun p hp => ?_
  · exact (hH.pos p hp).elim fun i h => h.elim fun t e => ⟨_, _, e⟩
  refine (hH.pos p hp).elim fun i h0 => h0.elim fun t e => ?_
  rw [e]
  repeat nest_cls
  refine D_no (Int.not_lt.mpr (Int.natCast_nonneg _)) ?_
  repeat nest_cls
  exact T_pick (.cons (.tail .head) (.skip .refl)) h
theorem s16 (E : EnvIs env lawKs F (lawCl c)) {rl r0 r1 : Addr} {y2 y3 : Value} {o6 o7 : Option Value} (e1 : f "rows" = some (.ref rl)) (hrl : (rl, It.ls [.ref r0, .ref r1, y2, y3]) ∈ L)
    (h : T B (n + 10) (execs (bodyFrom B.w.params 17) env) ((F, .nf f) :: (c 6, .ce (some (.ref r0))) :: (c 7, .ce (some (.ref r1))) :: L) Q) : T B (n + 10) (execs (bodyFrom B.w.params 16) env) ((F, .nf f) :: (c 6, .ce o6) :: (c 7, .ce o7) :: L) Q := by
  refine T_from rfl ?_
  repeat nest_cls
  refine T_Slice (T_vnone (T_vsome ?_))
  repeat nest_cls
  refine T_vnone ?_
  intro sa
  refine T_getSlice (lo := none) (hi := some 2) (st := none) (by tb_rel) (by tb_rel) .none (.int _ _) .none (by decide) slice_upto2 (Nat.le_of_ble_eq_true rfl) ⟨_, rfl⟩ fun lr => ?_
  repeat nest_cls
  refine T_asLs2 (by tb_rel) rfl rfl ?_
  repeat nest_cls
  exact T_pick (by kct_strs) h
end
end New
namespace New
section
variable {B : Bg} {n : Nat} {L : Led} {env : Env} {F : Addr} {c : Nat → Addr} {f : Str → Option Value} {Q : Flow → Led → Prop}
set_option maxHeartbeats 4000000
theorem s10 (O : Our B) (E : EnvIs env lawKs F (lawCl c)) {seed : Nat} {ts tx : Tok} {o3 o4 : Option Value} {tt : List Nat} (e1 : f "seed" = some (.int ((seed : Nat) : Int) ts)) (e2 : f "text" = some (.str (toS tt) tx)) (hl : (tt ++ tailL (seed % 4)).length ≤ 900)
    (h : ∀ (Z Y : LexA) (kz ky : Tok) (lv lw : List Value) (e : Led), LexOk B Z → LexOk B Y → Left lv (tt ++ tailL (seed % 4)) → Left lw [] → Here Z e → Here Y e →
      T B (n + 10) (execs (bodyFrom B.w.params 11) env) ((F, .nf f) :: (c 3, .ce (some (.ref Z.x))) :: (c 4, .ce (some (.ref Y.x))) :: (Z.dx, dn (lexD 1 kz (.ref Z.fs) Z.w Z.p)) :: (Z.p, .ls []) :: (Z.sl, .ls lv) :: (Y.dx, dn (lexD 1 ky (.ref Y.fs) Y.w Y.p)) :: (Y.p, .ls []) :: (Y.sl, .ls lw) :: (e ++ L)) Q) :
    T B (n + 10) (execs (bodyFrom B.w.params 10) env) ((F, .nf f) :: (c 3, .ce o3) :: (c 4, .ce o4) :: L) Q := by
  refine T_from rfl ?_
  repeat nest_cls
  rw [show (seed : Int).fmod 4 = ((seed % 4 : Nat) : Int) by rw [Int.fmod_eq_emod_of_nonneg _ (by decide)]; push_cast; rfl]
  refine T_tailItem (by tb_rel) (Nat.mod_lt _ (by decide)) rfl fun tq => ?_
  refine T_addS (szk (by rw [toS_len, toS_len]; rw [List.length_append] at hl; omega)) fun ka => ?_
  rw [toS_app]
  repeat nest_cls
  refine c_lexer O hl fun Z kz lv HZ hlv => ?_
  repeat nest_cls
  rw [← toS_nil]
  refine c_lexer O (cs := []) (by decide) fun Y ky lw HY hlw => ?_
  repeat nest_cls
  refine T_pick (L' := (F, .nf f) :: (c 3, .ce (some (.ref Z.x))) :: (c 4, .ce (some (.ref Y.x))) :: (Z.dx, dn (lexD 1 kz (.ref Z.fs) Z.w Z.p)) :: (Z.p, .ls []) :: (Z.sl, .ls lv) :: (Y.dx, dn (lexD 1 ky (.ref Y.fs) Y.w Y.p)) :: (Y.p, .ls []) :: (Y.sl, .ls lw) :: (Z.x, .ob Z.o) :: (Z.fs, .fn Z.fos Z.cds Z.qs) :: (Z.ds, dn [("read", some (.ref Z.fr))]) :: (Z.fr, .fn Z.fo Z.cd Z.q) :: (Z.c, .ce (some (.ref Z.sl))) :: (Y.x, .ob Y.o) :: (Y.fs, .fn Y.fos Y.cds Y.qs) :: (Y.ds, dn [("read", some (.ref Y.fr))]) :: (Y.fr, .fn Y.fo Y.cd Y.q) :: (Y.c, .ce (some (.ref Y.sl))) :: L) (by kct_strs) (h Z Y kz ky lv lw [(Z.x, .ob Z.o), (Z.fs, .fn Z.fos Z.cds Z.qs), (Z.ds, dn [("read", some (.ref Z.fr))]), (Z.fr, .fn Z.fo Z.cd Z.q), (Z.c, .ce (some (.ref Z.sl))), (Y.x, .ob Y.o), (Y.fs, .fn Y.fos Y.cds Y.qs), (Y.ds, dn [("read", some (.ref Y.fr))]), (Y.fr, .fn Y.fo Y.cd Y.q), (Y.c, .ce (some (.ref Y.sl)))] HZ HY hlv hlw ⟨.head _, M1, M2, M3, M4⟩ ⟨M5, M6, M7, J8 (.head _), J8 M1⟩)
theorem lk_words : (("words" : Str), NameKind.local) ∈ lawKs := by tb_rel
inductive Words (Z : LexA) (H : Addr × It) (L : Led) (ds : List (List Nat)) (rr : Nat → List Nat) (r av : List Value) : Led → Prop
  | mk {j : Nat} {ln : Int} {k : Tok} {lx : List Value} (h1 : r.length + j = 4) (h2 : StrsAre av ((ds.take j).map wordOf)) (h3 : Left lx (rr j)) (h4 : ln + nlc (rr j) = 1 + nlc (rr 0)) : Words Z H L ds rr r av (H :: (Z.dx, dn (lexD ln k (.ref Z.fs) Z.w Z.p)) :: (Z.sl, .ls lx) :: L)
set_option tactic.hygienic true in
theorem s11 (O : Our B) (E : EnvIs env lawKs F (lawCl c)) {seed : Nat} {Z : LexA} {kz : Tok} {lv vs : List Value} {dl : Addr} {ds : List (List Nat)} {rr : Nat → List Nat} (e1 : f "drawn" = some (.ref dl)) (hdl : (dl, It.ls vs) ∈ L) (hv4 : vs.length = 4) (hd4 : ds.length = 4) (k3 : (c 3, It.ce (some (.ref Z.x))) ∈ L) (HZ : LexOk B Z) (hZ : Here Z L) (hp : (Z.p, It.ls []) ∈ L) (hr : LexLaw seed ds rr) (hlv : Left lv (rr 0))
    (h : ∀ (wl : Addr) (wv : List Value) (ln : Int) (k : Tok) (lx : List Value), StrsAre wv (ds.map wordOf) → Left lx (rr 4) → ln + nlc (rr 4) = 1 + nlc (rr 0) → T B (n + 10) (execs (bodyFrom B.w.params 12) env) ((F, .nf (up f "words" (.ref wl))) :: (wl, .ls wv) :: (Z.dx, dn (lexD ln k (.ref Z.fs) Z.w Z.p)) :: (Z.sl, .ls lx) :: L) Q) :
    T B (n + 10) (execs (bodyFrom B.w.params 11) env) ((F, .nf f) :: (Z.dx, dn (lexD 1 kz (.ref Z.fs) Z.w Z.p)) :: (Z.sl, .ls lv) :: L) Q := by
  refine T_from rfl (T_s_AsComp [("_", .local), ("lexer", .cell)] [("lexer", c 3)] [("_", none)] E (swaps_comp E lk_words rfl rfl) (by kst_allIn) (of_decide_eq_true rfl) rfl rfl rfl (by kst_allIn) (by kst_allIn) rfl rfl (fun ι => rfl) ((ev_f E lk_drawn e1).2 _ (T_iter_ls (.tail _ (.tail _ (.tail _ hdl))) fun it acc C cenv E' => ⟨self_ls (.tail _ (.tail _ (.head _))), ?_⟩)))
  refine Tc_comp_i itr_ls (Words Z (F, .nf f) L ds rr) ?hm ?hz (fun ι ι => rfl) ?turn ?fin (.mk (j := 0) (by rw [hv4]) .nil hlv rfl)
  case hm => rintro r av _ ⟨⟩; exact .tail _ (.tail _ (.tail _ hdl))
  case hz =>
    rintro r av _ ⟨h1, h2⟩
    rw [strsAre_len h2, List.length_map, List.length_take]
    omega
  case turn =>
    rintro ia X x rs o av _ ⟨h1, h2, h3, h4⟩
    rename_i j ln k lx
    rw [List.length_cons] at h1
    refine T_assignName (T_st_local E' (.head _) (.tail .head) .head ?_)
    refine T_MethS0 rfl rfl ((ev_c E' (.tail _ (.head _)) (.head _) (.tail _ (.tail _ (sub4 (fun ι h => h) _ k3)))).2 _ ⟨_, cal_get O (.tail _ (.tail _ (sub4 (fun ι h => h) _ hZ.x))) M4 HZ.inst HZ.ne rfl, kp_143 O, ?_⟩)
    refine c_get O HZ R4 R4 ⟨.tail _ (.tail _ (.tail _ (.tail _ hZ.x))), .tail _ (.tail _ (.tail _ (.tail _ hZ.fs))), .tail _ (.tail _ (.tail _ (.tail _ hZ.ds))), .tail _ (.tail _ (.tail _ (.tail _ hZ.fr))), .tail _ (.tail _ (.tail _ (.tail _ hZ.c)))⟩ (.tail _ (.tail _ (.tail _ (.tail _ hp)))) h3 (hr.len j (by omega)) fun tok rest' ln' ws k' u q1 q2 q3 => ?_
    rw [hr.tok j (by omega)] at q1
    cases q1
    rw [toS_wordL]
    refine ⟨_, _, .cons R3 (.cons R2 (.cons R2 (.cons R2 .refl))), .mk (j := j + 1) (by omega) ?_ q3 (q2.trans h4)⟩
    have hj : j < ds.length := by omega
    rw [List.take_succ_eq_append_getElem hj, List.map_append]
    exact strsAre_append h2 (by rw [List.getD_eq_getElem?_getD, List.getElem?_eq_getElem hj]; exact .cons _ _ .nil)
  case fin =>
    rintro o av _ ⟨h1, h2, h3, h4⟩
    rename_i j ln k lx
    have hj : j = 4 := by simpa using h1
    subst hj
    rw [List.take_of_length_le (by rw [hd4]; exact Nat.le_refl _)] at h2
    exact T_stf E lk_words R2 ⟨_, _, .tail .head, List.cons_ne_nil _ _, h _ _ _ _ _ h2 h3 h4⟩
theorem Are.of_ints : ∀ {l : List Nat} {vs : List Value}, IntsAre vs (l.map ci) → Are (fun (a : Nat) v => ∃ t, v = .int ((a : Nat) : Int) t) l vs
  | [], _, h => by cases h; exact .nil
  | a :: l, _, h => by cases h with | cons _ t h => exact .cons ⟨t, rfl⟩ (Are.of_ints h)
theorem Are.strs {α : Type} {g : α → Str} {l : List α} {vs : List Value} (h : Are (fun a v => ∃ t, v = .str (g a) t) l vs) : StrsAre vs (l.map g) := by
  induction h with
  | nil => exact .nil
  | cons h _ ih => exact h.elim fun t e => e ▸ .cons _ t ih
theorem s12 (O : Our B) (E : EnvIs env lawKs F (lawCl c)) {wl dl nl : Addr} {wv vs : List Value} {ds : List (List Nat)} (e1 : f "words" = some (.ref wl)) (e2 : f "drawn" = some (.ref dl)) (hwl : (wl, It.ls wv) ∈ L) (hw : StrsAre wv (ds.map wordOf)) (hdl : (dl, It.ls vs) ∈ L) (hv : Are (fun hs v => ∃ d, v = .ref d ∧ LsN L d hs) ds vs) (k1 : (c 1, It.ce (some (.ref nl))) ∈ L) (hnl : LsW L nl flagNames)
    (hd : ∀ d ∈ ds, (∀ x ∈ d, x < 16) ∧ d.length ≤ 4) (hz : ds.length ≤ 1000) (hok : ∀ d ∈ ds, PyData.strOk (wordOf d) = true)
    (h : T B (n + 10) (execs (bodyFrom B.w.params 13) env) ((F, .nf f) :: L) Q) : T B (n + 10) (execs (bodyFrom B.w.params 12) env) ((F, .nf f) :: L) Q := by
  refine hnl.elim fun nv hn => ?_
  refine T_from rfl ?_
  repeat nest_cls
  refine T_weak (T_map (ks' := [("one", .local), ("names", .cell)]) (cl' := [("names", c 1)]) (M := L) (xs := ds) (W := fun (ι : Led) (hs : List Nat) y => ∃ t, y = .str (wordOf hs) t) E (by kst_allIn) (of_decide_eq_true rfl) rfl rfl rfl (by kst_allIn) (by kst_allIn) (.head _) (fun ι => rfl) (ev_f E lk_drawn e2) (.tail _ hdl) hv hz (fun ι h => h) ?turn fun a ys e hy => ⟨_, .cons (.tail rem_app) (.cons .head pick_app), ?_⟩)
  case turn =>
    rintro hs _ C cenv G hm ⟨d, rfl, v, hd1, hi⟩ E' hC s
    have hmem := s _ (.tail _ hd1)
    have k1' := s _ (.tail _ k1)
    have hn' := s _ (.tail _ hn.1)
    have hb := hd hs hm
    have hv4 := intsAre_len hi
    rw [List.length_map] at hv4
    repeat nest_cls
    refine T_t_ls hmem (by rw [hv4]; exact Nat.lt_of_le_of_lt hb.2 (by decide)) ?_
    refine D_if (fun hne => ?_) (fun hne => ?_)
    · repeat nest_cls
      refine ⟨_, cal_str PySem.F.slot_str_join PySem.F.type_str_join, ?_⟩
      repeat nest_cls
      refine T_map (ks' := [("hue", .local), ("names", .cell)]) (cl' := [("names", c 1)]) (M := G) (xs := hs) (W := fun (ι : Led) (z : Nat) y => ∃ t, y = .str (nameOf z) t) E' rfl (List.nodup_cons.mpr ⟨List.not_mem_nil, List.nodup_nil⟩) rfl rfl rfl (by kst_allIn) (by kst_allIn) (.head _) (fun ι => rfl) ⟨fun ι => rfl, fun Q h => T_nm E' (.head _) (nm_local hC (.head _) h)⟩ hmem (Are.of_ints hi) (Nat.le_trans hb.2 (by decide)) (fun ι h => h) ?turn2 ?h2
      case turn2 =>
        rintro z _ C3 cenv3 G3 hz3 ⟨t3, rfl⟩ E3 hC3 s3
        have k3 := s3 _ k1'
        have hn3 := s3 _ hn'
        refine (strsAre_get hn.2 z (nameOf z) (flag_get z (hb.1 z hz3))).elim fun tn hg => ?_
        repeat nest_cls
        refine T_item_ls hn3 (by omega) (by have := hb.1 z hz3; omega) (by rw [Int.toNat_natCast]; exact hg) rfl ⟨[], rfl, tn, rfl⟩
      intro a3 ys e h3
      have h3' := Are.strs h3
      repeat nest_cls
      refine T_join (by tb_rel) h3' (by decide) (joins_w _ (by omega)) fun kj => ?_
      have hne' : hs ≠ [] := by intro z; subst z; cases hi; exact hne rfl
      rw [show Txt.join ", " (hs.map nameOf) = wordOf hs by unfold wordOf; rw [if_neg hne']]
      exact ⟨(a3, .ls ys) :: e, rfl, kj, rfl⟩
    · repeat nest_cls
      have hh0 : hs = [] := by
        have hv : v = [] := Decidable.not_not.mp hne
        rw [hv] at hi
        cases hs with
        | nil => rfl
        | cons a b => cases hi
      exact ⟨[], rfl, _, congrArg (fun x => Value.str x _) (by rw [hh0]; decide +kernel)⟩
  repeat nest_cls
  refine T_neStrs (.tail _ (.tail _ hwl)) hw (.tail _ (.head _)) (Are.strs hy) (fun x hx => (List.mem_map.mp hx).elim fun d h => h.2 ▸ hok d h.1) (Nat.le_add_left 1 _) ?_
  repeat nest_cls
  exact T_pick (.cons .head (.skip .refl)) h
inductive RowsI (H : Addr × It) (L : Led) (ds : List (List Nat)) : List Value → List Value → Led → Prop
  | mk {r : List Value} {j : Nat} {rs : List (Addr × List Value)} (h1 : r.length + j = 4) (h2 : StrsAre r ((ds.drop j).map wordOf)) (h3 : Rws (ds.take j) rs) : RowsI H L ds r (rs.map fun p => Value.ref p.1) ((rs.map fun p => (p.1, It.ls p.2)).reverse ++ H :: L)
theorem RowsI.step {H : Addr × It} {ds : List (List Nat)} {rest v : List Value} {j : Nat} {rs : List (Addr × List Value)} {d : List Nat} {re : Addr} (h1 : rest.length + (j + 1) = 4) (h2 : StrsAre rest ((ds.drop (j + 1)).map wordOf)) (h3 : Rws (ds.take j) rs) (h4 : StrsAre v (d.map nameOf)) (ht : ds.take (j + 1) = ds.take j ++ [d]) :
    RowsI H L ds rest (rs.map (fun p => Value.ref p.1) ++ [.ref re]) ((re, .ls v) :: ((rs.map fun p => (p.1, It.ls p.2)).reverse ++ H :: L)) := by
  have := RowsI.mk (H := H) (L := L) h1 h2 (ht ▸ h3.snoc (r := re) h4)
  rw [List.map_append, List.map_append, List.reverse_append] at this
  exact this
set_option tactic.hygienic true in
theorem s13 (O : Our B) (E : EnvIs env lawKs F (lawCl c)) {wl : Addr} {wv : List Value} {ds : List (List Nat)} {h0 h1 h2 h3 : List Nat} (hd : ds = [h0, h1, h2, h3]) (e1 : f "words" = some (.ref wl)) (hwl : (wl, It.ls wv) ∈ L) (hw : StrsAre wv (ds.map wordOf)) (hdOk : ∀ d ∈ ds, (∀ x ∈ d, x < 16) ∧ d.length ≤ 4)
    (hsp : ∀ d ∈ ds, d ≠ [] → Txt.split (wordOf d) ", " = d.map nameOf) (hsw : ∀ d ∈ ds, d ≠ [] → wordOf d ≠ Str.ofString "0x0")
    (h : ∀ (rl r0 r1 r2 r3 : Addr) (v0 v1 v2 v3 : List Value), StrsAre v0 (h0.map nameOf) → StrsAre v1 (h1.map nameOf) → StrsAre v2 (h2.map nameOf) → StrsAre v3 (h3.map nameOf) →
      T B (n + 10) (execs (bodyFrom B.w.params 14) env) ((F, .nf (up f "rows" (.ref rl))) :: (r0, .ls v0) :: (r1, .ls v1) :: (rl, .ls [.ref r0, .ref r1, .ref r2, .ref r3]) :: (r2, .ls v2) :: (r3, .ls v3) :: L) Q) :
    T B (n + 10) (execs (bodyFrom B.w.params 13) env) ((F, .nf f) :: L) Q := by
  refine T_from rfl (T_s_AsComp [("word", .local)] [] [("word", none)] E (swaps_comp E lk_rows rfl rfl) (by kst_allIn) (of_decide_eq_true rfl) rfl rfl rfl (by kst_allIn) (by kst_allIn) rfl rfl (fun ι => rfl) ((ev_f E lk_words e1).2 _ (T_iter_ls (.tail _ hwl) fun it acc C cenv E' => ⟨self_ls (.tail _ (.tail _ (.head _))), ?_⟩)))
  refine Tc_comp_i itr_ls (RowsI (F, .nf f) L ds) ?hm ?hz (fun ι ι => rfl) ?turn ?fin (.mk (j := 0) (rs := []) (by rw [strsAre_len hw, hd]; rfl) hw .nil)
  case hm => rintro r av _ ⟨⟩; exact List.mem_append_right _ (.tail _ hwl)
  case hz =>
    rintro r av _ ⟨g1, g0, g2⟩
    have := g2.len
    simp at this ⊢
    omega
  case turn =>
    rintro ia X x rest o av _ ⟨g1, g0, g2⟩
    rename_i j rs
    rw [List.length_cons] at g1
    have hj : j < ds.length := by rw [hd]; exact (by omega : j < 4)
    rw [List.drop_eq_getElem_cons hj] at g0
    have hin : ds[j] ∈ ds := List.getElem_mem hj
    have htk := List.take_succ_eq_append_getElem hj
    generalize ds[j] = d at g0 hin htk
    cases g0 with | cons _ tw g0 =>
    refine T_assignName (T_st_local E' (.head _) (.tail .head) .head ?_)
    repeat nest_cls
    by_cases hd0 : d = []
    · have hw : (wordOf d != Str.ofString "0x0") = false := by rw [hd0]; decide +kernel
      rw [hw]
      repeat nest_cls
      exact ⟨_, _, .cons R2 (.cons R1 (.cons R1 .refl)), RowsI.step (by omega) g0 g2 (hd0 ▸ .nil) htk⟩
    · have hw : (wordOf d != Str.ofString "0x0") = true := bne_iff_ne.mpr (hsw d hin hd0)
      rw [hw]
      repeat nest_cls
      refine ⟨_, cal_str PySem.F.slot_str_split PySem.F.type_str_split, ?_⟩
      repeat nest_cls
      refine T_split rfl (Nat.le_trans (wordOf_len (hdOk d hin).1 (hdOk d hin).2) (by decide)) fun r vs' hvs => ?_
      rw [hsp d hin hd0] at hvs
      exact ⟨_, _, .cons R2 (.cons R1 (.cons R1 .refl)), RowsI.step (by omega) g0 g2 hvs htk⟩
  case fin =>
    rintro o av _ ⟨g1, g0, g2⟩
    rename_i j rs
    have hj : j = 4 := by simpa using g1
    subst hj
    rw [hd] at g2
    refine (Rws.four g2).elim fun r0 k => k.elim fun r1 k => k.elim fun r2 k => k.elim fun r3 k => k.elim fun v0 k => k.elim fun v1 k => k.elim fun v2 k => k.elim fun v3 k => ?_
    rw [k.1]
    refine T_stf E lk_rows (.tail (.tail R4)) ⟨_, _, .tail .head, List.cons_ne_nil _ _, T_pick ?_ (h acc r0 r1 r2 r3 v0 v1 v2 v3 k.2.1 k.2.2.1 k.2.2.2.1 k.2.2.2.2)⟩
    exact .cons .head (.cons R4 (.cons R3 (.cons .head (.cons R1 (.cons .head .refl)))))
end
end New
theorem tok_ws : ∀ (ws r : List Nat), (∀ c ∈ ws, isWs c = true) → tokRun (ws ++ r) = tokRun r
  | [], _, _ => rfl
  | c :: ws, r, h => by
    rw [List.cons_append, tokRun_cons, if_pos (h c (.head _))]
    exact tok_ws ws r fun d hd => h d (.tail _ hd)
theorem qRun_plain : ∀ (w acc r : List Nat), (∀ c ∈ w, c ≠ 34 ∧ c ≠ 92) → qRun acc (w ++ 34 :: r) = (acc ++ w, r)
  | [], acc, r, _ => by rw [List.nil_append, qRun_cons, if_pos rfl, List.append_nil]
  | c :: w, acc, r, h => by
    have hc := h c (.head _)
    rw [List.cons_append, qRun_cons, if_neg hc.1, if_neg hc.2, qRun_plain w _ r fun d hd => h d (.tail _ hd), List.append_assoc]
    rfl
theorem qRun_esc : ∀ (w acc r : List Nat), qRun acc ((w.flatMap fun c => [92] ++ [c]) ++ 34 :: r) = (acc ++ w, r)
  | [], acc, r => by rw [List.flatMap_nil, List.nil_append, qRun_cons, if_pos rfl, List.append_nil]
  | c :: w, acc, r => by
    rw [List.flatMap_cons, List.append_assoc]
    show qRun acc (92 :: c :: ((w.flatMap fun c => [92] ++ [c]) ++ 34 :: r)) = _
    rw [qRun_cons, if_neg (by decide), if_pos rfl]
    show qRun (acc ++ [c]) _ = _
    rw [qRun_esc w _ r, List.append_assoc]
    rfl
theorem pRun_esc : ∀ (w acc r : List Nat) (s : Nat), isWs s = true → pRun acc ((w.flatMap fun c => [92] ++ [c]) ++ s :: r) = (acc ++ w, r)
  | [], acc, r, s, h => by rw [List.flatMap_nil, List.nil_append, pRun_cons, if_pos h, List.append_nil]
  | c :: w, acc, r, s, h => by
    rw [List.flatMap_cons, List.append_assoc]
    show pRun acc (92 :: c :: ((w.flatMap fun c => [92] ++ [c]) ++ s :: r)) = _
    rw [pRun_cons, if_neg (by decide), if_pos rfl]
    show pRun (acc ++ [c]) _ = _
    rw [pRun_esc w _ r s h, List.append_assoc]
    rfl
theorem flat_id : ∀ w : List Nat, (w.flatMap fun c => [] ++ [c]) = w
  | [] => rfl
  | c :: w => by rw [List.flatMap_cons, flat_id w]; rfl
theorem sep_form {i : Nat} (hi : i < 4) : ∃ s r, sepL i = s :: r ∧ isWs s = true ∧ ∀ c ∈ r, isWs c = true := by
  match i, hi with
  | 0, _ => exact ⟨10, [], rfl, rfl, by simp⟩
  | 1, _ => exact ⟨32, [9], rfl, rfl, by simp; rfl⟩
  | 2, _ => exact ⟨13, [10], rfl, rfl, by simp; rfl⟩
  | 3, _ => exact ⟨32, [32], rfl, rfl, by simp; rfl⟩
noncomputable def preL (seed k : Nat) : List Nat := if kindOf seed k < 2 then sepL ((seed / 81 + k) % 4) else (sepL ((seed / 81 + k) % 4)).tail
theorem preL_ws (seed k : Nat) : ∀ c ∈ preL seed k, isWs c = true := by
  obtain ⟨s, r, e, h1, h2⟩ := sep_form (i := (seed / 81 + k) % 4) (Nat.mod_lt _ (by decide))
  intro c hc
  unfold preL at hc
  rw [e] at hc
  split at hc
  · rcases List.mem_cons.mp hc with rfl | hc
    · exact h1
    · exact h2 c hc
  · exact h2 c hc
theorem preL_len (seed k : Nat) : (preL seed k).length ≤ 2 := by
  have := sepL_len ((seed / 81 + k) % 4)
  unfold preL
  split
  · exact this
  · rw [List.length_tail]; omega
theorem tok_seg {seed k : Nat} {w R : List Nat} (hw : ∀ c ∈ w, c ≠ 34 ∧ c ≠ 92) (hne : w ≠ []) : tokRun (segL seed k w ++ R) = (w, preL seed k ++ R) := by
  have hk : kindOf seed k < 3 := Nat.mod_lt _ (by decide)
  obtain ⟨s, r, e, h1, h2⟩ := sep_form (i := (seed / 81 + k) % 4) (Nat.mod_lt _ (by decide))
  unfold segL preL
  rw [e]
  generalize kindOf seed k = kd at hk
  obtain rfl | rfl | rfl : kd = 0 ∨ kd = 1 ∨ kd = 2 := by omega
  · show tokRun ([34] ++ (w.flatMap fun c => [] ++ [c]) ++ [34] ++ (s :: r) ++ R) = (w, (s :: r) ++ R)
    rw [flat_id, List.append_assoc, List.append_assoc, List.append_assoc, List.singleton_append, tokRun_cons, if_neg (by decide), if_pos rfl]
    exact qRun_plain w [] _ hw
  · show tokRun ([34] ++ (w.flatMap fun c => [92] ++ [c]) ++ [34] ++ (s :: r) ++ R) = (w, (s :: r) ++ R)
    rw [List.append_assoc, List.append_assoc, List.append_assoc, List.singleton_append, tokRun_cons, if_neg (by decide), if_pos rfl]
    exact qRun_esc w [] _
  · show tokRun ([] ++ (w.flatMap fun c => [92] ++ [c]) ++ [] ++ (s :: r) ++ R) = (w, r ++ R)
    rw [List.nil_append, List.append_nil, List.append_assoc]
    cases w with
    | nil => exact absurd rfl hne
    | cons c w =>
      rw [List.flatMap_cons, List.append_assoc]
      show tokRun (92 :: c :: ((w.flatMap fun c => [92] ++ [c]) ++ s :: (r ++ R))) = _
      rw [tokRun_cons, if_neg (by decide), if_neg (by decide), if_pos rfl]
      show pRun [c] _ = _
      rw [pRun_esc w [c] _ s h1]
      rfl
theorem tok_tail (i : Nat) (hi : i < 4) : tokRun (tailL i) = ([101, 110, 100], []) := by
  match i, hi with
  | 0, _ => decide +kernel
  | 1, _ => decide +kernel
  | 2, _ => decide +kernel
  | 3, _ => decide +kernel
noncomputable def restN (seed : Nat) (ds : List (List Nat)) : Nat → Nat → List Nat
  | _, 0 => tailL (seed % 4)
  | k, n + 1 => segL seed k (wordL (ds.getD k [])) ++ restN seed ds (k + 1) n
theorem restN_len (seed : Nat) (ds : List (List Nat)) (h : ∀ k, (wordL (ds.getD k [])).length ≤ 80) : ∀ n k, (restN seed ds k n).length ≤ 164 * n + 5
  | 0, k => by have := tailL_len (seed % 4); show (tailL (seed % 4)).length ≤ _; omega
  | n + 1, k => by
    have h1 := restN_len seed ds h n (k + 1)
    have h2 := segL_len seed k (wordL (ds.getD k []))
    have h3 := h k
    show (segL seed k (wordL (ds.getD k [])) ++ restN seed ds (k + 1) n).length ≤ _
    rw [List.length_append]
    omega
noncomputable def rrOf (seed : Nat) (ds : List (List Nat)) : Nat → List Nat
  | 0 => restN seed ds 0 4
  | k + 1 => preL seed k ++ restN seed ds (k + 1) (3 - k)
theorem rr_tok (seed : Nat) (ds : List (List Nat)) (k : Nat) : ∃ P, (∀ c ∈ P, isWs c = true) ∧ P.length ≤ 2 ∧ rrOf seed ds k = P ++ restN seed ds k (4 - k) := by
  cases k with
  | zero => exact ⟨[], by simp, by decide, rfl⟩
  | succ k => exact ⟨_, preL_ws seed k, preL_len seed k, by rw [show 4 - (k + 1) = 3 - k by omega]; rfl⟩
theorem lex_law {seed : Nat} {ds : List (List Nat)} (hb : ∀ d ∈ ds, (∀ x ∈ d, x < 16) ∧ d.length ≤ 4) : LexLaw seed ds (rrOf seed ds) := by
  have hg : ∀ k, (∀ x ∈ ds.getD k [], x < 16) ∧ (ds.getD k []).length ≤ 4 := by
    intro k
    by_cases hk : k < ds.length
    · have e : ds.getD k [] = ds[k] := by simp [List.getD, hk]
      rw [e]; exact hb _ (List.getElem_mem hk)
    · have e : ds.getD k [] = [] := by simp [List.getD, hk]
      rw [e]; exact ⟨fun x hx => (nomatch hx), Nat.zero_le _⟩
  have hl : ∀ k, (wordL (ds.getD k [])).length ≤ 80 := fun k => wordL_len (hg k).1 (hg k).2
  refine ⟨?_, fun k hk => ?_, ?_, fun k hk => ?_⟩
  · show restN seed ds 0 4 = textN seed ds 4 ++ tailL (seed % 4)
    unfold textN textN textN textN textN restN restN restN restN restN
    simp only [List.nil_append, List.append_assoc]
  · obtain ⟨P, h1, _, e⟩ := rr_tok seed ds k
    rw [e, tok_ws P _ h1]
    obtain ⟨m, hm⟩ : ∃ m, 4 - k = m + 1 := ⟨3 - k, by omega⟩
    rw [hm]
    show tokRun (segL seed k (wordL (ds.getD k [])) ++ restN seed ds (k + 1) m) = _
    rw [tok_seg (fun c hc => ⟨(wordL_sign (hg k).1 c hc).1, (wordL_sign (hg k).1 c hc).2.1⟩) (wordL_ne (hg k).1)]
    show _ = (_, preL seed k ++ restN seed ds (k + 1) (3 - k))
    rw [show m = 3 - k by omega]
  · obtain ⟨P, h1, _, e⟩ := rr_tok seed ds 4
    rw [e, tok_ws P _ h1]
    exact tok_tail _ (Nat.mod_lt _ (by decide))
  · obtain ⟨P, _, h2, e⟩ := rr_tok seed ds k
    have h3 := restN_len seed ds hl (4 - k) k
    rw [e, List.length_append]
    omega
theorem nlc_app (a b : List Nat) : nlc (a ++ b) = nlc a + nlc b := by
  induction a with
  | nil => rw [List.nil_append, show nlc [] = 0 from rfl, Int.zero_add]
  | cons c a ih => rw [List.cons_append, nlc_cons, nlc_cons, ih, Int.add_assoc]
theorem nlc_tail (i : Nat) : nlc (tailL i) = 0 := by
  match i with
  | 0 => decide
  | 1 => decide
  | 2 => decide
  | 3 => decide
  | n + 4 => rfl
theorem nlc_rr {seed : Nat} {ds : List (List Nat)} {rr : Nat → List Nat} (h : LexLaw seed ds rr) : nlc (rr 0) = nlc (textN seed ds 4) := by
  rw [h.z, nlc_app, nlc_tail, Int.add_zero]
namespace New
structure LawR (B : Bg) (c : Nat → Addr) (L : Led) (mid : Nat) (dl d0 d1 d2 d3 nl : Addr) (h0 h1 h2 h3 : List Nat) (Z Y : LexA) (hd r0 r1 rl r2 r3 : Addr) : Prop where
  k : LawL c L mid dl d0 d1 d2 d3 nl h0 h1 h2 h3
  c3 : (c 3, It.ce (some (.ref Z.x))) ∈ L
  c4 : (c 4, It.ce (some (.ref Y.x))) ∈ L
  c5 : (c 5, It.ce (some (.ref hd))) ∈ L
  c6 : (c 6, It.ce (some (.ref r0))) ∈ L
  c7 : (c 7, It.ce (some (.ref r1))) ∈ L
  hk : ∃ kvs, (hd, dS B kvs) ∈ L ∧ HuesD kvs (h0 ++ h1 ++ h2 ++ h3)
  hZ : Here Z L
  hY : Here Y L
  rl : (rl, It.ls [.ref r0, .ref r1, .ref r2, .ref r3]) ∈ L
  m2 : LsW L r2 (h2.map nameOf)
  m3 : LsW L r3 (h3.map nameOf)
theorem Here.mono {Z : LexA} {L L' : Led} (s : Sub L L') (H : Here Z L) : Here Z L' := ⟨s _ H.x, s _ H.fs, s _ H.ds, s _ H.fr, s _ H.c⟩
section
variable {B : Bg} {n : Nat} {L L' : Led} {env : Env} {F : Addr} {c : Nat → Addr} {f f' : Str → Option Value} {Q : Flow → Led → Prop} {seed big mid : Nat} {dl d0 d1 d2 d3 nl : Addr} {h0 h1 h2 h3 tt : List Nat}
set_option maxHeartbeats 4000000
theorem LawR.mono {Z Y : LexA} {hd r0 r1 rl r2 r3 : Addr} (s : Sub L L') (K : LawR B c L mid dl d0 d1 d2 d3 nl h0 h1 h2 h3 Z Y hd r0 r1 rl r2 r3) : LawR B c L' mid dl d0 d1 d2 d3 nl h0 h1 h2 h3 Z Y hd r0 r1 rl r2 r3 :=
  ⟨K.k.mono s, s _ K.c3, s _ K.c4, s _ K.c5, s _ K.c6, s _ K.c7, K.hk.elim fun v h => ⟨v, s _ h.1, h.2⟩, Here.mono s K.hZ, Here.mono s K.hY, s _ K.rl, K.m2.mono s, K.m3.mono s⟩
theorem LawD.ok (D : LawD big mid h0 h1 h2 h3) : ∀ d ∈ [h0, h1, h2, h3], (∀ x ∈ d, x < 16) ∧ d.length ≤ 4 := by
  have b := Nat.le_trans D.mb D.b4
  intro d hm
  cases hm with
  | head => exact ⟨D.k0.b, D.l0 ▸ D.b4⟩
  | tail _ hm => cases hm with
    | head => exact ⟨D.k1.b, D.l1 ▸ b⟩
    | tail _ hm => cases hm with
      | head => exact ⟨D.k2.b, Nat.le_trans D.l2 b⟩
      | tail _ hm => cases hm with
        | head => exact ⟨D.k3.b, Nat.le_trans D.l3 b⟩
        | tail _ hm => cases hm
theorem LawD.all (D : LawD big mid h0 h1 h2 h3) : ∀ y ∈ h0 ++ h1 ++ h2 ++ h3, y < 16 := fun y hy =>
  (List.mem_append.mp hy).elim (fun hy => (List.mem_append.mp hy).elim (fun hy => (List.mem_append.mp hy).elim (D.k0.b y) (D.k1.b y)) (D.k2.b y)) (D.k3.b y)
theorem jb (O : Our B) (E : EnvIs env lawKs F (lawCl c)) (K : LawF f seed big dl (textN seed [h0, h1, h2, h3] 4)) (KL : LawL c L mid dl d0 d1 d2 d3 nl h0 h1 h2 h3) (D : LawD big mid h0 h1 h2 h3)
    (h : ∀ (f' : Str → Option Value) (Z Y : LexA) (kz ky : Tok) (ln : Int) (lv lw : List Value) (cs0 : List Nat) (hd r0 r1 rl r2 r3 : Addr) (v0 v1 : List Value) (L' : Led), LawF f' seed big dl (textN seed [h0, h1, h2, h3] 4) → f' "rows" = some (.ref rl) → LexOk B Z → LexOk B Y → Left lv cs0 → Left lw [] → tokRun cs0 = ([101, 110, 100], []) → cs0.length ≤ 900 → ln + nlc cs0 = 1 + nlc (textN seed [h0, h1, h2, h3] 4) →
      StrsAre v0 (h0.map nameOf) → StrsAre v1 (h1.map nameOf) → LawR B c L' mid dl d0 d1 d2 d3 nl h0 h1 h2 h3 Z Y hd r0 r1 rl r2 r3 →
      T B (n + 10) (execs (bodyFrom B.w.params 17) env) ((F, .nf f') :: (Z.p, .ls []) :: (Y.p, .ls []) :: (r0, .ls v0) :: (r1, .ls v1) :: (c 8, .ce none) :: (Z.dx, dn (lexD ln kz (.ref Z.fs) Z.w Z.p)) :: (Z.sl, .ls lv) :: (Y.dx, dn (lexD 1 ky (.ref Y.fs) Y.w Y.p)) :: (Y.sl, .ls lw) :: L') Q) :
    T B (n + 10) (execs (bodyFrom B.w.params 10) env) ((F, .nf f) :: (c 3, .ce none) :: (c 4, .ce none) :: (c 5, .ce none) :: (c 6, .ce none) :: (c 7, .ce none) :: (c 8, .ce none) :: L) Q := by
  have hr := lex_law (seed := seed) D.ok
  have hct := nlc_rr hr
  have hfin := hr.fin
  have hl4 := hr.len 4 (by decide)
  have hl0 := hr.len 0 (by decide)
  generalize rrOf seed [h0, h1, h2, h3] = rr at hr hct hfin hl4 hl0
  refine K.fs.elim fun ts es => K.ft.elim fun tx et => ?_
  refine s10 O E es et (by rw [← hr.z]; exact hl0) fun Z Y kz ky lv lw e HZ HY hlv hlw hZ hY => ?_
  rw [← hr.z] at hlv
  -- the words
  refine T_pick (L' := (F, .nf f) :: (Z.dx, dn (lexD 1 kz (.ref Z.fs) Z.w Z.p)) :: (Z.sl, .ls lv) :: (c 3, .ce (some (.ref Z.x))) :: (c 4, .ce (some (.ref Y.x))) :: (Z.p, .ls []) :: (Y.dx, dn (lexD 1 ky (.ref Y.fs) Y.w Y.p)) :: (Y.p, .ls []) :: (Y.sl, .ls lw) :: (c 5, .ce none) :: (c 6, .ce none) :: (c 7, .ce none) :: (c 8, .ce none) :: (e ++ L)) (by kct_strs) ?_
  have sE : Sub e (e ++ L) := fun p hp => List.mem_append_left _ hp
  have sL : Sub L (e ++ L) := fun p hp => List.mem_append_right _ hp
  have KE := KL.mono sL
  have s10' : Sub (e ++ L) ((c 3, .ce (some (.ref Z.x))) :: (c 4, .ce (some (.ref Y.x))) :: (Z.p, .ls []) :: (Y.dx, dn (lexD 1 ky (.ref Y.fs) Y.w Y.p)) :: (Y.p, .ls []) :: (Y.sl, .ls lw) :: (c 5, .ce none) :: (c 6, .ce none) :: (c 7, .ce none) :: (c 8, .ce none) :: (e ++ L)) := fun p hp => J8 (J1 (J1 hp))
  refine s11 O E K.fd (KE.hdl |> s10' _) rfl rfl (.head _) HZ (Here.mono (fun p hp => s10' _ (sE p hp)) hZ) M2 hr hlv fun wl wv ln k lx hwv hlx hln => ?_
  have s12' : Sub (e ++ L) ((wl, .ls wv) :: (Z.dx, dn (lexD ln k (.ref Z.fs) Z.w Z.p)) :: (Z.sl, .ls lx) :: (c 3, .ce (some (.ref Z.x))) :: (c 4, .ce (some (.ref Y.x))) :: (Z.p, .ls []) :: (Y.dx, dn (lexD 1 ky (.ref Y.fs) Y.w Y.p)) :: (Y.p, .ls []) :: (Y.sl, .ls lw) :: (c 5, .ce none) :: (c 6, .ce none) :: (c 7, .ce none) :: (c 8, .ce none) :: (e ++ L)) := fun p hp => J8 (J1 (J1 (J1 (J1 (J1 hp)))))
  have K2 := KE.mono s12'
  refine s12 O E up_eq (up_ne rfl K.fd) (.head _) hwv K2.hdl (.cons ⟨d0, rfl, K2.i0⟩ (.cons ⟨d1, rfl, K2.i1⟩ (.cons ⟨d2, rfl, K2.i2⟩ (.cons ⟨d3, rfl, K2.i3⟩ .nil)))) K2.c1 K2.hnl D.ok (show 4 ≤ 1000 by decide) (fun d hd => word_ok (D.ok d hd).1) ?_
  refine s13 O E rfl up_eq (.head _) hwv D.ok (fun d hd hne => word_split (D.ok d hd).1 hne) (fun d hd hne => word_not0 (D.ok d hd).1 hne) fun rl r0 r1 r2 r3 v0 v1 v2 v3 n0 n1 n2 n3 => ?_
  refine T_pick (L' := (F, .nf (up (up f "words" (.ref wl)) "rows" (.ref rl))) :: (c 5, .ce none) :: (Z.p, .ls []) :: (Y.p, .ls []) :: (r0, .ls v0) :: (r1, .ls v1) :: (c 8, .ce none) :: (Z.dx, dn (lexD ln k (.ref Z.fs) Z.w Z.p)) :: (Z.sl, .ls lx) :: (Y.dx, dn (lexD 1 ky (.ref Y.fs) Y.w Y.p)) :: (Y.sl, .ls lw) :: (c 6, .ce none) :: (c 7, .ce none) :: (c 3, .ce (some (.ref Z.x))) :: (c 4, .ce (some (.ref Y.x))) :: (rl, .ls [.ref r0, .ref r1, .ref r2, .ref r3]) :: (r2, .ls v2) :: (r3, .ls v3) :: (e ++ L)) (by kct_strs) ?_
  generalize hR : (c 3, It.ce (some (.ref Z.x))) :: (c 4, .ce (some (.ref Y.x))) :: (rl, .ls [.ref r0, .ref r1, .ref r2, .ref r3]) :: (r2, .ls v2) :: (r3, .ls v3) :: (e ++ L) = R
  have sR : Sub (e ++ L) R := fun p hp => hR ▸ J1 (J1 (J1 (J1 (J1 hp))))
  have KR := KE.mono sR
  have hZR := Here.mono (fun p hp => sR p (sE p hp)) hZ
  have hYR := Here.mono (fun p hp => sR p (sE p hp)) hY
  have r3' : (c 3, It.ce (some (.ref Z.x))) ∈ R := hR ▸ .head _
  have r4' : (c 4, It.ce (some (.ref Y.x))) ∈ R := hR ▸ M1
  have rl' : (rl, It.ls [.ref r0, .ref r1, .ref r2, .ref r3]) ∈ R := hR ▸ M2
  have q2' : LsW R r2 (h2.map nameOf) := ⟨v2, hR ▸ M3, n2⟩
  have q3' : LsW R r3 (h3.map nameOf) := ⟨v3, hR ▸ M4, n3⟩
  clear hR
  have s14' : Sub R ((Z.p, .ls []) :: (Y.p, .ls []) :: (r0, .ls v0) :: (r1, .ls v1) :: (c 8, .ce none) :: (Z.dx, dn (lexD ln k (.ref Z.fs) Z.w Z.p)) :: (Z.sl, .ls lx) :: (Y.dx, dn (lexD 1 ky (.ref Y.fs) Y.w Y.p)) :: (Y.sl, .ls lw) :: (c 6, .ce none) :: (c 7, .ce none) :: R) := fun p hp => J8 (J1 (J1 (J1 hp)))
  have b := Nat.le_trans D.mb D.b4
  have K3 := (K.up (x := "words") (v := .ref wl) rfl).up (x := "rows") (v := .ref rl) rfl
  have hne : h0 ++ h1 ++ h2 ++ h3 ≠ [] := fun z => by
    have z0 : h0.length = 0 := by rw [(List.append_eq_nil_iff.mp (List.append_eq_nil_iff.mp (List.append_eq_nil_iff.mp z).1).1).1]; rfl
    exact absurd (Nat.le_trans D.b2 (Nat.le_of_eq (D.l0.symm.trans z0))) (by decide)
  refine s14 O E up_eq (up_ne rfl (up_ne rfl es)) (s14' _ KR.c1) (KR.hnl.mono s14') (s14' _ rl') ⟨v0, M2, n0⟩ ⟨v1, M3, n1⟩ (q2'.mono s14') (q3'.mono s14') D.all (D.l0 ▸ D.b4) (D.l1 ▸ b) (Nat.le_trans D.l2 b) (Nat.le_trans D.l3 b) fun hd kvs hsm hH => ?_
  refine s15 O E (.head _) M1 hsm hH hne ?_
  refine T_pick (L' := (F, .nf (up (up f "words" (.ref wl)) "rows" (.ref rl))) :: (c 6, .ce none) :: (c 7, .ce none) :: (Z.p, .ls []) :: (Y.p, .ls []) :: (r0, .ls v0) :: (r1, .ls v1) :: (c 8, .ce none) :: (Z.dx, dn (lexD ln k (.ref Z.fs) Z.w Z.p)) :: (Z.sl, .ls lx) :: (Y.dx, dn (lexD 1 ky (.ref Y.fs) Y.w Y.p)) :: (Y.sl, .ls lw) :: (c 5, .ce (some (.ref hd))) :: (hd, dS B kvs) :: R) (by kct_strs) ?_
  refine s16 E up_eq (J8 (J1 (J1 (J1 rl')))) ?_
  refine T_pick (L' := (F, .nf (up (up f "words" (.ref wl)) "rows" (.ref rl))) :: (Z.p, .ls []) :: (Y.p, .ls []) :: (r0, .ls v0) :: (r1, .ls v1) :: (c 8, .ce none) :: (Z.dx, dn (lexD ln k (.ref Z.fs) Z.w Z.p)) :: (Z.sl, .ls lx) :: (Y.dx, dn (lexD 1 ky (.ref Y.fs) Y.w Y.p)) :: (Y.sl, .ls lw) :: (c 5, .ce (some (.ref hd))) :: (hd, dS B kvs) :: (c 6, .ce (some (.ref r0))) :: (c 7, .ce (some (.ref r1))) :: R) (by kct_strs) ?_
  have sF : Sub R ((c 5, .ce (some (.ref hd))) :: (hd, dS B kvs) :: (c 6, .ce (some (.ref r0))) :: (c 7, .ce (some (.ref r1))) :: R) := fun p hp => J1 (J1 (J1 (J1 hp)))
  exact h _ Z Y k ky ln lx lw _ hd r0 r1 rl r2 r3 v0 v1 _ K3 up_eq HZ HY hlx hlw hfin hl4 (hln.trans (by rw [hct])) n0 n1 ⟨KR.mono sF, sF _ r3', sF _ r4', .head _, M2, M3, ⟨kvs, M1, hH⟩, Here.mono sF hZR, Here.mono sF hYR, sF _ rl', q2'.mono sF, q3'.mono sF⟩
end
end New
namespace New
structure LawP (B : Bg) (c : Nat → Addr) (L : Led) (mid : Nat) (dl d0 d1 d2 d3 nl : Addr) (h0 h1 h2 h3 : List Nat) (Z Y : LexA) (hd r0 r1 rl r2 r3 ac1 t1 t2 ac2 t3 t4 g3 g4 gm : Addr) (n1 n2 n3 n4 : Int) (gs3 gs4 : List Nat) : Prop where
  r : LawR B c L mid dl d0 d1 d2 d3 nl h0 h1 h2 h3 Z Y hd r0 r1 rl r2 r3
  c8 : (c 8, It.ce (some (.ref gm))) ∈ L
  a1 : (ac1, It.ls [.ref t1, .ref t2]) ∈ L
  p1 : ∃ g u, (t1, tup [.ref g, .int n1 u]) ∈ L
  p2 : ∃ g u, (t2, tup [.ref g, .int n2 u]) ∈ L
  a2 : (ac2, It.ls [.ref t3, .ref t4]) ∈ L
  p3 : ∃ u, (t3, tup [.ref g3, .int n3 u]) ∈ L
  p4 : ∃ u, (t4, tup [.ref g4, .int n4 u]) ∈ L
  q3 : LsW L g3 (gs3.map nameOf)
  q4 : LsW L g4 (gs4.map nameOf)
section
variable {B : Bg} {n : Nat} {L L' : Led} {env : Env} {F : Addr} {c : Nat → Addr} {f f' : Str → Option Value} {Q : Flow → Led → Prop} {seed big mid : Nat} {dl d0 d1 d2 d3 nl : Addr} {h0 h1 h2 h3 tt : List Nat} {Z Y : LexA} {hd r0 r1 rl r2 r3 : Addr}
set_option maxHeartbeats 4000000
theorem LawP.mono {ac1 t1 t2 ac2 t3 t4 g3 g4 gm : Addr} {n1 n2 n3 n4 : Int} {gs3 gs4 : List Nat} (s : Sub L L') (K : LawP B c L mid dl d0 d1 d2 d3 nl h0 h1 h2 h3 Z Y hd r0 r1 rl r2 r3 ac1 t1 t2 ac2 t3 t4 g3 g4 gm n1 n2 n3 n4 gs3 gs4) : LawP B c L' mid dl d0 d1 d2 d3 nl h0 h1 h2 h3 Z Y hd r0 r1 rl r2 r3 ac1 t1 t2 ac2 t3 t4 g3 g4 gm n1 n2 n3 n4 gs3 gs4 :=
  ⟨K.r.mono s, s _ K.c8, s _ K.a1, K.p1.elim fun g h => h.elim fun u h => ⟨g, u, s _ h⟩, K.p2.elim fun g h => h.elim fun u h => ⟨g, u, s _ h⟩, s _ K.a2, K.p3.elim fun u h => ⟨u, s _ h⟩, K.p4.elim fun u h => ⟨u, s _ h⟩, K.q3.mono s, K.q4.mono s⟩
noncomputable def Us (h0 h1 h2 h3 : List Nat) (y : Nat) : Prop := y ∈ h0 ++ h1 ++ h2 ++ h3 ∧ y < 16
theorem LawD.u0 (D : LawD big mid h0 h1 h2 h3) : ∀ y ∈ h0, Us h0 h1 h2 h3 y := fun y hy => ⟨List.mem_append_left _ (List.mem_append_left _ (List.mem_append_left _ hy)), D.k0.b y hy⟩
theorem LawD.u1 (D : LawD big mid h0 h1 h2 h3) : ∀ y ∈ h1, Us h0 h1 h2 h3 y := fun y hy => ⟨List.mem_append_left _ (List.mem_append_left _ (List.mem_append_right _ hy)), D.k1.b y hy⟩
theorem LawD.u2 (D : LawD big mid h0 h1 h2 h3) : ∀ y ∈ h2, Us h0 h1 h2 h3 y := fun y hy => ⟨List.mem_append_left _ (List.mem_append_right _ hy), D.k2.b y hy⟩
theorem LawD.u3 (D : LawD big mid h0 h1 h2 h3) : ∀ y ∈ h3, Us h0 h1 h2 h3 y := fun y hy => ⟨List.mem_append_right _ hy, D.k3.b y hy⟩
theorem names_ok {xs : List Nat} (h : ∀ y ∈ xs, Us h0 h1 h2 h3 y) : ∀ x ∈ xs.map nameOf, PyData.strOk x = true := fun x hx => (List.mem_map.mp hx).elim fun y hy => hy.2 ▸ name_ok y (h y hy.1).2
theorem jc (O : Our B) (E : EnvIs env lawKs F (lawCl c)) (K : LawF f seed big dl tt) (er : f "rows" = some (.ref rl)) (HZ : LexOk B Z) (HY : LexOk B Y) (R : LawR B c L mid dl d0 d1 d2 d3 nl h0 h1 h2 h3 Z Y hd r0 r1 rl r2 r3) (D : LawD big mid h0 h1 h2 h3) {kz ky : Tok} {ln : Int} {lv lw v0 v1 : List Value} (m0 : StrsAre v0 (h0.map nameOf)) (m1 : StrsAre v1 (h1.map nameOf))
    (h : ∀ (f' : Str → Option Value) (ac1 t1 t2 ac2 t3 t4 g3 g4 gm : Addr) (n1 n2 n3 n4 n5 : Int) (u : Tok) (gs1 gs2 gs3 gs4 gs5 xs1 xs2 xs3 xs4 xs5 : List Nat) (fv gv : List Value) (L' : Led), LawF f' seed big dl tt → f' "first" = some (.ref ac1) → f' "second" = some (.ref ac2) → f' "across" = some (.int n5 u) →
      PassR false h1 h2 gs1 n1 xs1 → PassR false (xs1 ++ h2) h3 gs2 n2 xs2 → PassR false h0 gs1 gs3 n3 xs3 → PassR false (xs3 ++ gs1) gs2 gs4 n4 xs4 → PassR false (xs4 ++ gs2) (xs2 ++ h3) gs5 n5 xs5 → StrsAre fv ((xs5 ++ (xs2 ++ h3)).map nameOf) → StrsAre gv (gs5.map nameOf) →
      LawP B c L' mid dl d0 d1 d2 d3 nl h0 h1 h2 h3 Z Y hd r0 r1 rl r2 r3 ac1 t1 t2 ac2 t3 t4 g3 g4 gm n1 n2 n3 n4 gs3 gs4 →
      T B (n + 10) (execs (bodyFrom B.w.params 23) env) ((F, .nf f') :: (Z.p, .ls []) :: (Y.p, .ls []) :: (r0, .ls fv) :: (gm, .ls gv) :: (Z.dx, dn (lexD ln kz (.ref Z.fs) Z.w Z.p)) :: (Z.sl, .ls lv) :: (Y.dx, dn (lexD 1 ky (.ref Y.fs) Y.w Y.p)) :: (Y.sl, .ls lw) :: L') Q) :
    T B (n + 10) (execs (bodyFrom B.w.params 17) env) ((F, .nf f) :: (Z.p, .ls []) :: (Y.p, .ls []) :: (r0, .ls v0) :: (r1, .ls v1) :: (c 8, .ce none) :: (Z.dx, dn (lexD ln kz (.ref Z.fs) Z.w Z.p)) :: (Z.sl, .ls lv) :: (Y.dx, dn (lexD 1 ky (.ref Y.fs) Y.w Y.p)) :: (Y.sl, .ls lw) :: L) Q := by
  have b1 : h1.length ≤ 4 := D.l1 ▸ Nat.le_trans D.mb D.b4
  have l21 : h2.length ≤ h1.length := D.l1 ▸ D.l2
  have l31 : h3.length ≤ h1.length := D.l1 ▸ D.l3
  have l10 : h1.length ≤ h0.length := by rw [D.l0, D.l1]; exact D.mb
  have b0 : h0.length ≤ 20 := Nat.le_trans (D.l0 ▸ D.b4) (by decide)
  have z : ∀ {a : Nat}, a ≤ 20 → 0 + a ≤ 100 := fun h => by rw [Nat.zero_add]; exact Nat.le_trans h (by decide)
  refine R.hk.elim fun kvs hk => ?_
  generalize hz2 : (Z.dx, dn (lexD ln kz (.ref Z.fs) Z.w Z.p)) = pz at *
  generalize hy2 : (Y.dx, dn (lexD 1 ky (.ref Y.fs) Y.w Y.p)) = py at *
  have s17' : ∀ {a b i j k l m o : Addr × It}, Sub L (a :: b :: i :: j :: k :: l :: m :: o :: L) := fun p hp => J8 hp
  refine s17 (pre := []) (a := h0) (m := lexD ln kz (.ref Z.fs) Z.w Z.p) O E (s17' _ R.c3) (s17' _ R.c6) HZ (s17' _ R.hZ.x) (hz2 ▸ M4) rfl rfl M1 m0 .nil (z b0) fun f1 pv1 k1 a1 => ?_
  refine T_pick (L' := (F, .nf f1) :: (Y.p, .ls []) :: (Z.p, .ls pv1) :: (r0, .ls v0) :: (r1, .ls v1) :: (c 8, .ce none) :: pz :: (Z.sl, .ls lv) :: py :: (Y.sl, .ls lw) :: L) (.cons .head (.cons R1 .refl)) ?_
  refine s18 (pre := []) (a := h1) (m := lexD 1 ky (.ref Y.fs) Y.w Y.p) O E (s17' _ R.c4) (s17' _ R.c7) HY (s17' _ R.hY.x) (hy2 ▸ M6) rfl rfl M2 m1 .nil (z (Nat.le_trans b1 (by decide))) fun f2 pv2 k2 a2 => ?_
  have K2 := (K.kept k1 rfl).kept k2 rfl
  replace a1 : StrsAre pv1 (h0.map nameOf) := a1
  replace a2 : StrsAre pv2 (h1.map nameOf) := a2
  have er2 := kept_ap k2 rfl (kept_ap k1 rfl er)
  refine T_pick (L' := (F, .nf f2) :: (Y.p, .ls pv2) :: (r1, .ls v1) :: (Z.p, .ls pv1) :: (r0, .ls v0) :: (c 8, .ce none) :: pz :: (Z.sl, .ls lv) :: py :: (Y.sl, .ls lw) :: L) (.cons .head (.cons .head (.cons R2 .refl))) ?_
  have s19' : ∀ {a b i j k l m : Addr × It}, Sub L (a :: b :: i :: j :: k :: l :: m :: L) := fun p hp => J1 (J1 (J1 (J1 (J1 (J1 (J1 hp))))))
  refine R.m2.elim fun w2 x2 => R.m3.elim fun w3 x3 => ?_
  refine s19 (m := lexD 1 ky (.ref Y.fs) Y.w Y.p) O E (s19' _ R.c4) (s19' _ R.c5) (s19' _ R.c7) er2 (s19' _ R.rl) (s19' _ x2.1) (s19' _ x3.1) (s19' _ hk.1) HY (s19' _ R.hY.x) (hy2 ▸ M5) rfl rfl rfl a2 m1 x2.2 x3.2 hk.2 D.u1 D.u2 D.u3 l21 l31 (Nat.le_trans b1 (by decide)) fun ac1 t1 t2 g1 g2 n1 n2 u1 u2 w4 w5 pv3 hv3 gs1 gs2 xs1 xs2 e1 P1 P2 y1 y2 y3 y4 i1 i2 i3 i4 i5 => ?_
  have A1 := P1.all D.u1 D.u2
  have A2 := P2.all A1.2 D.u3
  refine T_pick (L' := (F, .nf (up f2 "first" (.ref ac1))) :: (Z.p, .ls pv1) :: (r0, .ls v0) :: (Y.p, .ls pv3) :: (r1, .ls hv3) :: (c 8, .ce none) :: pz :: (Z.sl, .ls lv) :: py :: (Y.sl, .ls lw) :: (e1 ++ L)) (by kct_strs) ?_
  have s7 : ∀ {M : Led} {a b i j k l m : Addr × It}, Sub M (a :: b :: i :: j :: k :: l :: m :: M) := fun p hp => J1 (J1 (J1 (J1 (J1 (J1 (J1 hp))))))
  have e1L : Sub L (e1 ++ L) := fun p hp => List.mem_append_right _ hp
  have E1 : Sub e1 (e1 ++ L) := fun p hp => List.mem_append_left _ hp
  have RR := R.mono e1L
  have lg1 : gs1.length ≤ h0.length := by rw [P1.glen]; exact Nat.le_trans l21 l10
  have lg2 : gs2.length ≤ h0.length := by rw [P2.glen]; exact Nat.le_trans l31 l10
  refine s20 (m := lexD ln kz (.ref Z.fs) Z.w Z.p) O E (s7 _ RR.c3) (s7 _ RR.c5) (s7 _ RR.c6) up_eq (s7 _ (E1 _ i1)) (s7 _ (E1 _ i2)) (s7 _ (E1 _ i3)) (s7 _ (E1 _ i4)) (s7 _ (E1 _ i5)) (s7 _ (e1L _ hk.1)) HZ (s7 _ RR.hZ.x) (hz2 ▸ M3) rfl rfl rfl a1 m0 y1 y2 hk.2 D.u0 A1.1 A2.1 lg1 lg2 b0 fun ac2 t3 t4 g3 g4 n3 n4 u3 u4 w6 w7 pv4 hv4 gs3 gs4 xs3 xs4 e2 P3 P4 y5 y6 y7 y8 j1 j2 j3 j4 j5 => ?_
  have A3 := P3.all D.u0 A1.1
  have A4 := P4.all A3.2 A2.1
  have len2 : (xs2 ++ h3).length = h1.length := by rw [P2.len, P1.len]
  have len4 : (xs4 ++ gs2).length = h0.length := by rw [P4.len, P3.len]
  refine T_pick (L' := (F, .nf (up (up f2 "first" (.ref ac1)) "second" (.ref ac2))) :: (Z.p, .ls pv4) :: (r0, .ls hv4) :: (Y.p, .ls pv3) :: (r1, .ls hv3) :: (c 8, .ce none) :: pz :: (Z.sl, .ls lv) :: py :: (Y.sl, .ls lw) :: (e2 ++ (e1 ++ L))) (.cons .head (.cons .head (.cons .head (.cons rem_app (.cons rem_app (.cons rem_app (.cons rem_app (.cons rem_app (.cons rem_app (.cons rem_app .refl)))))))))) ?_
  refine T_pick (L' := (F, .nf (up (up f2 "first" (.ref ac1)) "second" (.ref ac2))) :: (Z.p, .ls pv4) :: (r0, .ls hv4) :: (c 8, .ce none) :: (r1, .ls hv3) :: (Y.p, .ls pv3) :: pz :: (Z.sl, .ls lv) :: py :: (Y.sl, .ls lw) :: (e2 ++ (e1 ++ L))) (by kct_strs) ?_
  have e2L : Sub (e1 ++ L) (e2 ++ (e1 ++ L)) := fun p hp => List.mem_append_right _ hp
  have E2 : Sub e2 (e2 ++ (e1 ++ L)) := fun p hp => List.mem_append_left _ hp
  have R2 := RR.mono e2L
  have s6 : ∀ {M : Led} {a b i j k l : Addr × It}, Sub M (a :: b :: i :: j :: k :: l :: M) := fun p hp => J1 (J1 (J1 (J1 (J1 (J1 hp)))))
  refine s21 (m := lexD ln kz (.ref Z.fs) Z.w Z.p) O E (s6 _ R2.c3) (s6 _ R2.c5) (s6 _ R2.c6) (s6 _ R2.c7) (.head _) (s6 _ (e2L _ (e1L _ hk.1))) HZ (s6 _ R2.hZ.x) (hz2 ▸ M2) rfl rfl rfl y7 y8 y4 hk.2 A4.2 A2.2 (by rw [len2, len4]; exact l10) (by rw [len4]; exact b0) fun tp gm u5 w8 pv5 hv5 gs5 n5 xs5 P5 y9 z1 z2 => ?_
  have A5 := P5.all A4.2 A2.2
  show T B (n + 10) (execs (bodyFrom B.w.params 22) env) ((F, _) :: (Z.p, .ls pv5) :: (r0, .ls hv5) :: (c 8, _) :: (tp, _) :: (gm, .ls w8) :: (r1, .ls hv3) :: (Y.p, .ls pv3) :: pz :: _) Q
  refine T_pick (L' := (F, .nf (up (up (up f2 "first" (.ref ac1)) "second" (.ref ac2)) "across" (.int n5 u5))) :: (Z.p, .ls pv5) :: (Y.p, .ls pv3) :: (r0, .ls hv5) :: (gm, .ls w8) :: (c 8, .ce (some (.ref gm))) :: (r1, .ls hv3) :: pz :: (Z.sl, .ls lv) :: py :: (Y.sl, .ls lw) :: (e2 ++ (e1 ++ L))) (by kct_strs) ?_
  have s8 : ∀ {M : Led} {a b i j k l m o : Addr × It}, Sub M (a :: b :: i :: j :: k :: l :: m :: o :: M) := fun p hp => J8 hp
  have len5 : (xs5 ++ (xs2 ++ h3)).length = h0.length := by rw [P5.len, len4]
  refine s22 (mz := lexD ln kz (.ref Z.fs) Z.w Z.p) (my := lexD 1 ky (.ref Y.fs) Y.w Y.p) O E (s8 _ R2.c3) (s8 _ R2.c4) (s8 _ R2.c6) (s8 _ R2.c7) HZ (s8 _ R2.hZ.x) (hz2 ▸ M4) rfl rfl HY (s8 _ R2.hY.x) (hy2 ▸ M6) rfl rfl (.head _) M3 z1 z2 y3 y4 (by rw [len5]; exact Nat.le_trans b0 (by decide)) (by rw [len2]; exact Nat.le_trans b1 (by decide)) (names_ok A5.2) (names_ok A2.2) ?_
  subst hz2 hy2
  refine T_pick (L' := (F, .nf (up (up (up f2 "first" (.ref ac1)) "second" (.ref ac2)) "across" (.int n5 u5))) :: (Z.p, .ls []) :: (Y.p, .ls []) :: (r0, .ls hv5) :: (gm, .ls w8) :: (Z.dx, dn (lexD ln kz (.ref Z.fs) Z.w Z.p)) :: (Z.sl, .ls lv) :: (Y.dx, dn (lexD 1 ky (.ref Y.fs) Y.w Y.p)) :: (Y.sl, .ls lw) :: (c 8, .ce (some (.ref gm))) :: (e2 ++ (e1 ++ L))) (by kct_strs) ?_
  have sF : Sub (e2 ++ (e1 ++ L)) ((c 8, .ce (some (.ref gm))) :: (e2 ++ (e1 ++ L))) := fun p hp => J1 hp
  exact h _ ac1 t1 t2 ac2 t3 t4 g3 g4 gm n1 n2 n3 n4 n5 u5 gs1 gs2 gs3 gs4 gs5 xs1 xs2 xs3 xs4 xs5 hv5 w8 _ (((K2.up (x := "first") (v := .ref ac1) rfl).up (x := "second") (v := .ref ac2) rfl).up (x := "across") (v := .int n5 u5) rfl) (up_ne rfl (up_ne rfl up_eq)) (up_ne rfl up_eq) up_eq P1 P2 P3 P4 P5 z2 y9
    ⟨R2.mono sF, .head _, sF _ (e2L _ (E1 _ i1)), ⟨g1, u1, sF _ (e2L _ (E1 _ i2))⟩, ⟨g2, u2, sF _ (e2L _ (E1 _ i3))⟩, sF _ (E2 _ j1), ⟨u3, sF _ (E2 _ j2)⟩, ⟨u4, sF _ (E2 _ j3)⟩, ⟨w6, sF _ (E2 _ j4), y5⟩, ⟨w7, sF _ (E2 _ j5), y6⟩⟩
end
end New
namespace New
structure LawI (f : Str → Option Value) (e1 e2 e3 e4 e5 : Nat) : Prop where
  a : ∃ t, f "early" = some (.int ((e1 : Nat) : Int) t)
  b : ∃ t, f "some" = some (.int ((e2 : Nat) : Int) t)
  c : ∃ t, f "more" = some (.int ((e3 : Nat) : Int) t)
  d : ∃ t, f "less" = some (.int ((e4 : Nat) : Int) t)
  e : ∃ t, f "least" = some (.int ((e5 : Nat) : Int) t)
structure LawE (B : Bg) (c : Nat → Addr) (L : Led) (mid : Nat) (dl d0 d1 d2 d3 nl : Addr) (h0 h1 h2 h3 : List Nat) (Z Y : LexA) (hd r0 r1 rl r2 r3 g3 g4 gm el : Addr) (gs3 gs4 : List Nat) : Prop where
  r : LawR B c L mid dl d0 d1 d2 d3 nl h0 h1 h2 h3 Z Y hd r0 r1 rl r2 r3
  c8 : (c 8, It.ce (some (.ref gm))) ∈ L
  q3 : LsW L g3 (gs3.map nameOf)
  q4 : LsW L g4 (gs4.map nameOf)
  el : (el, It.ls [.ref g3, .ref g4, .ref gm, .ref r0]) ∈ L
section
variable {B : Bg} {n : Nat} {L L' : Led} {env : Env} {F : Addr} {c : Nat → Addr} {f f' : Str → Option Value} {Q : Flow → Led → Prop} {seed big mid : Nat} {dl d0 d1 d2 d3 nl : Addr} {h0 h1 h2 h3 tt : List Nat} {Z Y : LexA} {hd r0 r1 rl r2 r3 ac1 t1 t2 ac2 t3 t4 g3 g4 gm : Addr} {n1 n2 n3 n4 n5 : Int} {gs1 gs2 gs3 gs4 gs5 xs1 xs2 xs3 xs4 xs5 : List Nat}
set_option maxHeartbeats 4000000
theorem eqs {a b c d e f : Nat} (h : a + b + c = d + e + f) : (((a : Nat) : Int) + ((b : Nat) : Int) + ((c : Nat) : Int) != ((d : Nat) : Int) + ((e : Nat) : Int) + ((f : Nat) : Int)) = false := by
  rw [← Int.natCast_add, ← Int.natCast_add, ← Int.natCast_add, ← Int.natCast_add, h, bne_self_eq_false]
theorem eqs2 {a b c d : Nat} (h : a + b = c + d) : ((a : Nat) : Int) + ((b : Nat) : Int) = (c : Int) + (d : Int) := by rw [← Int.natCast_add, ← Int.natCast_add, h]
theorem jd (O : Our B) (E : EnvIs env lawKs F (lawCl c)) (K : LawF f seed big dl tt) (f1 : f "first" = some (.ref ac1)) (f2 : f "second" = some (.ref ac2)) {u : Tok} (f3 : f "across" = some (.int n5 u)) (D : LawD big mid h0 h1 h2 h3)
    (P1 : PassR false h1 h2 gs1 n1 xs1) (P2 : PassR false (xs1 ++ h2) h3 gs2 n2 xs2) (P3 : PassR false h0 gs1 gs3 n3 xs3) (P4 : PassR false (xs3 ++ gs1) gs2 gs4 n4 xs4) (P5 : PassR false (xs4 ++ gs2) (xs2 ++ h3) gs5 n5 xs5) {fv gv : List Value} (m0 : StrsAre fv ((xs5 ++ (xs2 ++ h3)).map nameOf)) (m1 : StrsAre gv (gs5.map nameOf))
    (W : LawP B c L mid dl d0 d1 d2 d3 nl h0 h1 h2 h3 Z Y hd r0 r1 rl r2 r3 ac1 t1 t2 ac2 t3 t4 g3 g4 gm n1 n2 n3 n4 gs3 gs4) {p1 p2 p3 p4 p5 p6 : Addr × It}
    (h : ∀ (f' : Str → Option Value) (el : Addr) (e1 e2 e3 e4 e5 : Nat) (L0 R0 bx0 R1 ot0 R2 bx L1 ot L2 : List Nat) (L' : Led), LawF f' seed big dl tt → f' "end" = some (.ref el) → LawI f' e1 e2 e3 e4 e5 → PL h0 h1 L0 R0 e1 → PL R0 h2 bx0 R1 e2 → PL R1 h3 ot0 R2 e3 → PL L0 bx0 bx L1 e4 → PL L1 ot0 ot L2 e5 →
      gs3.Perm bx → gs4.Perm ot → gs5.Perm L2 → (xs5 ++ (xs2 ++ h3)).Perm R2 → LawE B c L' mid dl d0 d1 d2 d3 nl h0 h1 h2 h3 Z Y hd r0 r1 rl r2 r3 g3 g4 gm el gs3 gs4 →
      T B (n + 10) (execs (bodyFrom B.w.params 32) env) ((F, .nf f') :: p1 :: p2 :: (r0, .ls fv) :: (gm, .ls gv) :: p3 :: p4 :: p5 :: p6 :: L') Q) :
    T B (n + 10) (execs (bodyFrom B.w.params 23) env) ((F, .nf f) :: p1 :: p2 :: (r0, .ls fv) :: (gm, .ls gv) :: p3 :: p4 :: p5 :: p6 :: L) Q := by
  have l21 : h2.length ≤ h1.length := D.l1 ▸ D.l2
  have l31 : h3.length ≤ h1.length := D.l1 ▸ D.l3
  have l10 : h1.length ≤ h0.length := by rw [D.l0, D.l1]; exact D.mb
  obtain ⟨i1, rfl, Q1⟩ := pass_down P1 (lt_nodup D.k1.lt) D.k1.b (lt_nodup D.k2.lt) D.k2.b l21
  obtain ⟨i2, rfl, Q2⟩ := pass_down P2 Q1.rn Q1.rb (lt_nodup D.k3.lt) D.k3.b (by rw [P1.len]; exact l31)
  obtain ⟨i3, rfl, Q3⟩ := pass_down P3 (lt_nodup D.k0.lt) D.k0.b Q1.gn Q1.gb (by rw [P1.glen]; exact Nat.le_trans l21 l10)
  obtain ⟨i4, rfl, Q4⟩ := pass_down P4 Q3.rn Q3.rb Q2.gn Q2.gb (by rw [P3.len, P2.glen]; exact Nat.le_trans l31 l10)
  obtain ⟨i5, rfl, Q5⟩ := pass_down P5 Q4.rn Q4.rb Q2.rn Q2.rb (by rw [P4.len, P3.len, P2.len, P1.len]; exact l10)
  have s8 : Sub L (p1 :: p2 :: (r0, .ls fv) :: (gm, .ls gv) :: p3 :: p4 :: p5 :: p6 :: L) := fun p hp => J8 hp
  have W8 := W.mono s8
  have z0 : h0.length < 64 := Nat.lt_of_le_of_lt (D.l0 ▸ D.b4) (by decide)
  refine s23 O E K.fd W8.r.k.hdl W8.r.k.i0 W8.r.k.i1 W8.r.k.i2 W8.r.k.i3 D.k0 D.k1 D.k2 D.k3 (D.l0 ▸ D.b4) l10 l21 l31 fun b o l r e1 e2 e3 e4 e5 u1 u2 u3 u4 u5 L0 R0 bx0 R1 ot0 R2 bx L1 ot L2 f' e M1' M2' M3' M4' M5' k b1 b2 b3 b4 j1 j2 j3 j4 o1 o2 o3 o4 v1 v2 v3 v4 v5 => ?_
  obtain ⟨x1, x2, x3, x4, x5, x6, x7⟩ := law_math Q1 Q2 Q3 Q4 Q5 M1' M2' M3' M4' M5'
  have se : Sub (p1 :: p2 :: (r0, .ls fv) :: (gm, .ls gv) :: p3 :: p4 :: p5 :: p6 :: L) (e ++ (p1 :: p2 :: (r0, .ls fv) :: (gm, .ls gv) :: p3 :: p4 :: p5 :: p6 :: L)) := fun p hp => List.mem_append_right _ hp
  have We := W8.mono se
  refine We.p1.elim fun y1 q1 => q1.elim fun w1 q1 => We.p2.elim fun y2 q2 => q2.elim fun w2 q2 => We.p3.elim fun w3 q3 => We.p4.elim fun w4 q4 => ?_
  refine (s28 E (kept_ap k rfl f2) We.a2 q3 q4 We.c8 We.r.c6 fun el => ?_)
  have sN : Sub (e ++ (p1 :: p2 :: (r0, .ls fv) :: (gm, .ls gv) :: p3 :: p4 :: p5 :: p6 :: L)) ((el, .ls [.ref g3, .ref g4, .ref gm, .ref r0]) :: (e ++ (p1 :: p2 :: (r0, .ls fv) :: (gm, .ls gv) :: p3 :: p4 :: p5 :: p6 :: L))) := fun p hp => J1 hp
  have WN := We.mono sN
  have b4' : h0.length ≤ 4 := D.l0 ▸ D.b4
  have z3 : gs3.length < 64 := by rw [P3.glen, P1.glen]; exact Nat.lt_of_le_of_lt (Nat.le_trans l21 (Nat.le_trans l10 b4')) (by decide)
  have z4 : gs4.length < 64 := by rw [P4.glen, P2.glen]; exact Nat.lt_of_le_of_lt (Nat.le_trans l31 (Nat.le_trans l10 b4')) (by decide)
  have z5 : gs5.length < 64 := by rw [P5.glen, P2.len, P1.len]; exact Nat.lt_of_le_of_lt (Nat.le_trans l10 b4') (by decide)
  have z6 : (xs5 ++ (xs2 ++ h3)).length < 64 := by rw [P5.len, P4.len, P3.len]; exact z0
  have hp : ∀ p ∈ [(gs3, bx), (gs4, ot), (gs5, L2), (xs5 ++ (xs2 ++ h3), R2)], p.1.Perm p.2 ∧ (p.2.map ci).Pairwise (· ≤ ·) ∧ (∀ z ∈ p.1, z < 16) ∧ p.1.length < 64 := by
    intro p hm
    cases hm with
    | head => exact ⟨x1, o1, Q3.gb, z3⟩
    | tail _ hm => cases hm with
      | head => exact ⟨x2, o2, Q4.gb, z4⟩
      | tail _ hm => cases hm with
        | head => exact ⟨x3, o3, Q5.gb, z5⟩
        | tail _ hm => cases hm with
          | head => exact ⟨x4, o4, Q5.rb, z6⟩
          | tail _ hm => cases hm
  refine s29 O E up_eq (up_ne rfl b1) (up_ne rfl b2) (up_ne rfl b3) (up_ne rfl b4) WN.r.k.c1 WN.r.k.hnl (.head _) (.cons ⟨g3, rfl, WN.q3⟩ (.cons ⟨g4, rfl, WN.q4⟩ (.cons ⟨gm, rfl, ⟨gv, sN _ (se _ M3), m1⟩⟩ (.cons ⟨r0, rfl, ⟨fv, sN _ (se _ M2), m0⟩⟩ .nil)))) hp (j1.mono sN) (j2.mono sN) (j3.mono sN) (j4.mono sN) ?_
  refine s30 E (up_ne rfl (kept_ap k rfl f1)) (up_ne rfl (kept_ap k rfl f2)) WN.a1 WN.a2 (sN _ q1) (sN _ q2) (sN _ q3) (sN _ q4) (up_ne rfl v2) (up_ne rfl v4) (up_ne rfl v3) (up_ne rfl v5) (eqs2 x5) (eqs2 x6) ?_
  refine s31 E (up_ne rfl (kept_ap k rfl f1)) WN.a1 (sN _ q1) (sN _ q2) (up_ne rfl v1) (up_ne rfl (kept_ap k rfl f3)) (up_ne rfl v4) (up_ne rfl v5) (eqs x7) ?_
  refine T_pick (L' := (F, .nf (up f' "end" (.ref el))) :: p1 :: p2 :: (r0, .ls fv) :: (gm, .ls gv) :: p3 :: p4 :: p5 :: p6 :: (el, .ls [.ref g3, .ref g4, .ref gm, .ref r0]) :: (e ++ L)) (.cons .head (.cons (.tail rem_app) (.cons (.tail rem_app) (.cons (.tail rem_app) (.cons (.tail rem_app) (.cons (.tail rem_app) (.cons (.tail rem_app) (.cons (.tail rem_app) (.cons (.tail rem_app) .refl))))))))) ?_
  have sF : Sub L ((el, .ls [.ref g3, .ref g4, .ref gm, .ref r0]) :: (e ++ L)) := fun p hp => J1 (List.mem_append_right _ hp)
  have WF := W.mono sF
  exact h _ el e1 e2 e3 e4 e5 L0 R0 bx0 R1 ot0 R2 bx L1 ot L2 _ ((K.kept k rfl).up (x := "end") (v := .ref el) rfl) up_eq ⟨⟨_, up_ne rfl v1⟩, ⟨_, up_ne rfl v2⟩, ⟨_, up_ne rfl v3⟩, ⟨_, up_ne rfl v4⟩, ⟨_, up_ne rfl v5⟩⟩ M1' M2' M3' M4' M5' x1 x2 x3 x4 ⟨WF.r, WF.c8, WF.q3, WF.q4, .head _⟩
end
end New
namespace New
noncomputable def toksOf (fr : List Nat) (t0 : List Nat) : List Str := fr.map nameOf ++ [toS t0, toS []]
theorem toks_lt {fr t0 : List Nat} {j : Nat} (h : j < fr.length) : (fr.map nameOf).drop j = nameOf fr[j] :: (fr.map nameOf).drop (j + 1) ∧ (toksOf fr t0).take (j + 1) = (toksOf fr t0).take j ++ [nameOf fr[j]] := by
  have h' : j < (fr.map nameOf).length := by rw [List.length_map]; exact h
  refine ⟨by rw [List.drop_eq_getElem_cons h', List.getElem_map], ?_⟩
  rw [List.take_add_one]
  unfold toksOf
  rw [List.getElem?_append_left h', List.getElem?_eq_getElem h', List.getElem_map]
  rfl
theorem toks_a {fr t0 : List Nat} : (toksOf fr t0)[fr.length]? = some (toS t0) := by
  unfold toksOf
  rw [List.getElem?_append_right (by rw [List.length_map]; exact Nat.le_refl _), List.length_map, Nat.sub_self]
  rfl
theorem toks_b {fr t0 : List Nat} : (toksOf fr t0)[fr.length + 1]? = some (toS []) := by
  unfold toksOf
  rw [List.getElem?_append_right (by rw [List.length_map]; omega), List.length_map, Nat.add_sub_cancel_left]
  rfl
theorem toks_len {fr t0 : List Nat} : (toksOf fr t0).length = fr.length + 2 := by unfold toksOf; rw [List.length_append, List.length_map]; rfl
theorem take_one {fr : List Nat} : (toksOf fr []).take (fr.length + 1) = fr.map nameOf ++ [toS []] := by
  unfold toksOf
  rw [List.take_append, List.length_map, List.take_of_length_le (by rw [List.length_map]; omega), Nat.add_sub_cancel_left]
  rfl
theorem end_str : Str.ofString "end" = toS [101, 110, 100] := by decide +kernel
theorem rest_strs {hv hw : List Value} {fr me : List Nat} (h1 : StrsAre hv (fr.map nameOf)) (h2 : StrsAre hw (me.map nameOf)) (t1 t2 t3 : Tok) :
    StrsAre (hv ++ [.str (Str.ofString "end") t1, .str (Str.ofString "") t2] ++ hw ++ [.str (Str.ofString "") t3]) (toksOf fr [101, 110, 100] ++ (me.map nameOf ++ [toS []])) := by
  have q := strsAre_append (strsAre_append (strsAre_append h1 (.cons (Str.ofString "end") t1 (.cons (Str.ofString "") t2 .nil))) h2) (.cons (Str.ofString "") t3 .nil)
  rw [end_str, ← toS_nil] at q
  unfold toksOf
  simpa only [List.append_assoc, List.cons_append, List.nil_append, ← toS_nil, end_str] using q
section
variable {B : Bg} {n : Nat} {L : Led} {env : Env} {F : Addr} {c : Nat → Addr} {ks ks' : List (Str × NameKind)} {cl cl' : List (Str × Addr)} {it0 : It} {pv lv : List Value}
set_option maxHeartbeats 4000000
inductive Drain (Z : LexA) (H : Addr × It) (L : Led) (a t0 cs0 : List Nat) (ln : Int) (j : Nat) (av : List Value) : Led → Prop
  | mk {lnn : Int} {k : Tok} {lx pq : List Value} {cs : List Nat} (h1 : j ≤ a.length + 2) (h2 : StrsAre av ((toksOf a t0).take j)) (h3 : StrsAre pq ((a.map nameOf).drop j)) (h4 : Left lx cs) (h5 : lnn + nlc cs = ln + nlc cs0) (h6 : (j ≤ a.length ∧ cs = cs0) ∨ (a.length < j ∧ cs = [])) :
    Drain Z H L a t0 cs0 ln j av (H :: (Z.dx, dn (lexD lnn k (.ref Z.fs) Z.w Z.p)) :: (Z.p, .ls pq) :: (Z.sl, .ls lx) :: L)
theorem T_drain (O : Our B) {ob : Str} {q1 q2 q3 pq pos : Pos} {iter : Expr} {scope : Scope} {Z : LexA} {ln : Int} {k : Tok} {a t0 cs0 : List Nat} {N : Nat} {Q : Value → Led → Prop} (hpp : (q2.endLine == q3.line) = true) (E : EnvIs env ks F cl) (hcl : closL scope.names cl [] = some cl') (hnd' : decide (cl'.map (·.1)).Nodup = true) (hkind : scope.kind = .function) (hnames : (scope.names.all fun x => x.2 != .local || scope.names.lookup x.1 == some .local) = true) (hcell : (scope.names.all fun x => x.2 != .cell) = true)
    (hf : (scope.names.all fun x => x.2 != .free || (ks.lookup x.1).isSome) = true)
    (hks : (ks'.all fun p => (relabL ks scope.names).lookup p.1 == some p.2 && !(p.1 == ("__debug__" : Str)) && !(p.1 == ("__classdict__" : Str))) = true)
    (hxn : (("_" : Str), NameKind.local) ∈ ks') (hsf : ∀ x, foldedSetIterable iter env x = pure x)
    (hi : ∀ (Q : Value → Led → Prop), (∀ it, Q (.ref it) ((it, rngIter 0 (N : Int)) :: (F, it0) :: (Z.dx, dn (lexD ln k (.ref Z.fs) Z.w Z.p)) :: (Z.p, .ls pv) :: (Z.sl, .ls lv) :: L)) → T B (n + 10) (eval iter env) ((F, it0) :: (Z.dx, dn (lexD ln k (.ref Z.fs) Z.w Z.p)) :: (Z.p, .ls pv) :: (Z.sl, .ls lv) :: L) fun v L1 => T B (n + 10) (pyIter v) L1 Q)
    (hob : ∀ C cenv G, EnvIs cenv ks' C cl' → Sub L G → Ev B (n + 10) cenv G (.Name ob q1) (.ref Z.x))
    (HZ : LexOk B Z) (hH : Here Z L) (hN : N ≤ a.length + 2) (ha : a.length ≤ 90) (hp : StrsAre pv (a.map nameOf)) (hlv : Left lv cs0) (hcs : tokRun cs0 = (t0, [])) (hcz : cs0.length ≤ 900)
    (h : ∀ acc av M, Drain Z (F, it0) L a t0 cs0 ln N av M → Q (.ref acc) ((acc, .ls av) :: M)) :
    T B (n + 10) (eval (.ListComp (.Call (.Attribute (.Name ob q1) "get_token" q2) [] [] q3) [⟨.Name "_" pq, iter, [], 0⟩] scope pos) env) ((F, it0) :: (Z.dx, dn (lexD ln k (.ref Z.fs) Z.w Z.p)) :: (Z.p, .ls pv) :: (Z.sl, .ls lv) :: L) Q := by
  refine T_ListComp ks' cl' [("_", none)] E hcl (of_decide_eq_true hnd') hkind hnames hcell hf hks rfl (of_decide_eq_true rfl) hsf (hi _ fun it acc C cenv E' => ⟨self_range (.tail _ (.tail _ (.head _))), ?_⟩)
  refine Tc_comp_rg (Drain Z (F, it0) L a t0 cs0 ln) ?hz (fun ι ι => rfl) ?turn (fun o av R h0 => ⟨_, _, .head, List.cons_ne_nil _ _, h _ _ _ h0⟩) (.mk (Nat.zero_le _) .nil hp hlv rfl (.inl ⟨Nat.zero_le _, rfl⟩))
  case hz =>
    intro j av R h0
    cases h0 with | mk _ h2 =>
    have := strsAre_len h2
    rw [List.length_take] at this
    omega
  case turn =>
    intro X j tk o av R hj h0
    cases h0 with | @mk lnn k lx pq cs g0 g1 g2 g3 g4 g5 =>
    refine T_assignName (T_st_local E' hxn (.tail .head) .head ?_)
    have sb : ∀ w1 w2 w3 : It, Sub L ((C, .ns [("_", some (.int (j : Int) tk))]) :: (it, X) :: (acc, .ls av) :: (F, it0) :: (Z.dx, w1) :: (Z.p, w2) :: (Z.sl, w3) :: L) := fun ι ι ι ι hp => .tail _ (.tail _ (.tail _ (sub4 (fun ι h => h) _ hp)))
    refine T_MethS0 rfl hpp ((hob C cenv _ E' (sb _ _ _)).2 _ ⟨_, cal_get O (sb _ _ _ _ hH.x) (.tail _ (.tail _ (.tail _ (.tail _ (.head _))))) HZ.inst HZ.ne rfl, kp_143 O, ?_⟩)
    by_cases hjn : j < a.length
    · have hd := toks_lt (t0 := t0) hjn
      rw [hd.1] at g2
      cases g2 with | @cons _ tz pq' _ g2' =>
      refine c_get1 (m := lexD lnn k (.ref Z.fs) Z.w Z.p) O (p := Z.p) HZ.inst HZ.ne rfl R5 (.tail _ (.tail _ (sub4 (fun ι h => h) _ hH.x))) M4 ?_ ⟨_, _, .cons R2 (.cons R1 (.cons R1 (.cons R1 (.cons R1 (.cons .head .refl))))), .mk (Nat.le_trans hj hN) (by rw [hd.2]; exact strsAre_append g1 (.cons _ _ .nil)) g2' g3 g4 (.inl ⟨hjn, g5.elim And.right fun z => absurd z.1 (by omega)⟩)⟩
      rw [strsAre_len g2', List.length_drop, List.length_map]
      omega
    · have hp0 : pq = [] := by
        rw [List.drop_eq_nil_of_le (by rw [List.length_map]; omega)] at g2
        cases g2; rfl
      subst hp0
      refine c_get O HZ R4 R5 ⟨?_, ?_, ?_, ?_, ?_⟩ M4 g3 (g5.elim (fun z => z.2 ▸ hcz) fun z => z.2 ▸ Nat.zero_le _) fun tok rest' ln' ws k' u q1 q2 q3 => ?_
      · exact .tail _ (sub4 (fun ι h => h) _ hH.x)
      · exact .tail _ (sub4 (fun ι h => h) _ hH.fs)
      · exact .tail _ (sub4 (fun ι h => h) _ hH.ds)
      · exact .tail _ (sub4 (fun ι h => h) _ hH.fr)
      · exact .tail _ (sub4 (fun ι h => h) _ hH.c)
      have hs : rest' = [] ∧ (toksOf a t0)[j]? = some (toS tok) := by
        rcases g5 with ⟨z1, z2⟩ | ⟨z1, z2⟩
        · have ej : j = a.length := by omega
          rw [z2, hcs] at q1
          cases q1
          exact ⟨rfl, ej ▸ toks_a⟩
        · have ej : j = a.length + 1 := by omega
          rw [z2] at q1
          have q1' : ([], []) = (tok, rest') := q1
          cases q1'
          exact ⟨rfl, ej ▸ toks_b⟩
      rw [hs.1] at q2 q3
      refine ⟨_, _, .cons R3 (.cons R2 (.cons R2 (.cons R2 (.cons .head (.cons R1 .refl))))), Drain.mk (j := j + 1) (t0 := t0) (Nat.le_trans hj hN) ?_ ?_ q3 (q2.trans g4) (.inr ⟨Nat.lt_succ_of_le (Nat.not_lt.mp hjn), rfl⟩)⟩
      rw [List.take_add_one, hs.2]; exact strsAre_append g1 (.cons _ _ .nil)
      rw [List.drop_eq_nil_of_le (by rw [List.length_map]; omega)]
      exact .nil
theorem s39 (O : Our B) {f : Str → Option Value} {Q : Flow → Led → Prop} (E : EnvIs env lawKs F (lawCl c)) {Z Y : LexA} {ln : Int} {kz ky tb tm : Tok} {lw pw : List Value} {a b t0 cs0 : List Nat} (hbig : f "big" = some (.int ((a.length : Nat) : Int) tb)) (k0 : (c 0, It.ce (some (.int ((b.length : Nat) : Int) tm))) ∈ L) (k3 : (c 3, It.ce (some (.ref Z.x))) ∈ L) (k4 : (c 4, It.ce (some (.ref Y.x))) ∈ L)
    (HZ : LexOk B Z) (HY : LexOk B Y) (hZ : Here Z L) (hY : Here Y L) (ha : a.length ≤ 90) (hb : b.length ≤ 90) (hp : StrsAre pv (a.map nameOf)) (hq : StrsAre pw (b.map nameOf)) (hlv : Left lv cs0) (hlw : Left lw []) (hcs : tokRun cs0 = (t0, [])) (hcz : cs0.length ≤ 900)
    (h : ∀ (ar : Addr) (rv : List Value) (ln2 : Int) (k2 : Tok) (M : Led), Sub L M → StrsAre rv (toksOf a t0 ++ (b.map nameOf ++ [toS []])) → ln2 = ln + nlc cs0 → T B (n + 10) (execs (bodyFrom B.w.params 40) env) ((F, .nf (up f "rest" (.ref ar))) :: (ar, .ls rv) :: (Z.dx, dn (lexD ln2 k2 (.ref Z.fs) Z.w Z.p)) :: M) Q) :
    T B (n + 10) (execs (bodyFrom B.w.params 39) env) ((F, .nf f) :: (Z.dx, dn (lexD ln kz (.ref Z.fs) Z.w Z.p)) :: (Z.p, .ls pv) :: (Z.sl, .ls lv) :: (Y.dx, dn (lexD 1 ky (.ref Y.fs) Y.w Y.p)) :: (Y.p, .ls pw) :: (Y.sl, .ls lw) :: L) Q := by
  refine T_from rfl ?_
  repeat nest_cls
  refine T_drain (ks' := [("_", .local), ("lexer", .cell)]) (cl' := [("lexer", c 3)]) (N := a.length + 2) O rfl E (by kst_allIn) rfl rfl rfl rfl (by kst_allIn) (by kst_allIn) (.head _) (fun ι => rfl) ?hi (fun C cenv G E' s => ev_c E' (.tail _ (.head _)) (.head _) (s _ (.tail _ (.tail _ (.tail _ k3))))) HZ ⟨.tail _ (.tail _ (.tail _ hZ.x)), .tail _ (.tail _ (.tail _ hZ.fs)), .tail _ (.tail _ (.tail _ hZ.ds)), .tail _ (.tail _ (.tail _ hZ.fr)), .tail _ (.tail _ (.tail _ hZ.c))⟩ (Nat.le_refl _) ha hp hlv hcs hcz fun acc av M1 D1 => ?_
  case hi =>
    intro Q h
    repeat nest_cls
    rw [show ((a.length : Nat) : Int) + 2 = ((a.length + 2 : Nat) : Int) from rfl]
    refine T_weak (T_iter_range (.head _) (range_small (by omega) (by omega) (by omega) (by omega)) fun it => ⟨_, .cons .head (.skip .refl), ?_⟩)
    rw [range_size (by omega), Int.sub_zero]
    exact h it
  cases D1 with | @mk ln2 k2 lx pq cs g1 g2 g3 g4 g5 g6 =>
  repeat nest_cls
  refine T_pick (L' := (F, .nf f) :: (Y.dx, dn (lexD 1 ky (.ref Y.fs) Y.w Y.p)) :: (Y.p, .ls pw) :: (Y.sl, .ls lw) :: (acc, .ls av) :: (Z.dx, dn (lexD ln2 k2 (.ref Z.fs) Z.w Z.p)) :: L) (.cons R1 (.cons R4 (.cons R4 (.cons R4 (.cons .head (.cons .head (.skip (.skip .refl)))))))) ?_
  refine T_drain (ks' := [("_", .local), ("line", .cell)]) (cl' := [("line", c 4)]) (N := b.length + 1) (t0 := []) (cs0 := []) O rfl E (by kst_allIn) rfl rfl rfl rfl (by kst_allIn) (by kst_allIn) (.head _) (fun ι => rfl) ?hi2 (fun C cenv G E' s => ev_c E' (.tail _ (.head _)) (.head _) (s _ (.tail _ (.tail _ k4)))) HY ⟨.tail _ (.tail _ hY.x), .tail _ (.tail _ hY.fs), .tail _ (.tail _ hY.ds), .tail _ (.tail _ hY.fr), .tail _ (.tail _ hY.c)⟩ (Nat.le_succ _) hb hq hlw rfl (Nat.zero_le _) fun acc2 av2 M2 D2 => ?_
  case hi2 =>
    intro Q h
    have k0' : (c 0, It.ce (some (.int ((b.length : Nat) : Int) tm))) ∈ (F, It.nf f) :: (Y.dx, dn (lexD 1 ky (.ref Y.fs) Y.w Y.p)) :: (Y.p, .ls pw) :: (Y.sl, .ls lw) :: (acc, .ls av) :: (Z.dx, dn (lexD ln2 k2 (.ref Z.fs) Z.w Z.p)) :: L := .tail _ (.tail _ (sub4 (fun ι h => h) _ k0))
    repeat nest_cls
    rw [show ((b.length : Nat) : Int) + 1 = ((b.length + 1 : Nat) : Int) from rfl]
    refine T_weak (T_iter_range (.head _) (range_small (by omega) (by omega) (by omega) (by omega)) fun it => ⟨_, .cons .head (.skip .refl), ?_⟩)
    rw [range_size (by omega), Int.sub_zero]
    exact h it
  cases D2 with | @mk ln3 k3' lx3 pq3 cs3 i1 i2 i3 i4 i5 i6 =>
  rw [take_one] at i2
  rw [List.take_of_length_le (by rw [toks_len]; exact Nat.le_refl _)] at g2
  have l1 := strsAre_len g2
  have l2 := strsAre_len i2
  rw [toks_len] at l1
  rw [List.length_append, List.length_map] at l2
  refine T_addList (.tail _ (.tail _ (.tail _ (.tail _ (.tail _ (.head _)))))) (.head _) (szk (by rw [l1, l2]; exact Nat.le_trans (Nat.add_le_add (Nat.add_le_add_right ha 2) (Nat.add_le_add_right hb 1)) (by decide))) fun ar => ?_
  repeat nest_cls
  refine T_pick (.cons .head (.cons .head (.cons R5 .refl))) (h ar _ ln2 k2 _ (fun p hp => .tail _ (sub4 (fun ι h => h) _ hp)) (strsAre_append g2 i2) ?_)
  rcases g6 with g6 | g6
  · exact absurd g6.1 (Nat.not_le_of_lt (Nat.lt_succ_of_le (Nat.le_succ _)))
  · rw [g6.2] at g5
    exact (Int.add_zero ln2).symm.trans g5
theorem s40 (O : Our B) {f : Str → Option Value} {Q : Flow → Led → Prop} (E : EnvIs env lawKs F (lawCl c)) {Z : LexA} {ln : Int} {kz tx : Tok} {dl hm ar d0 d1 d2 d3 r0 g5 : Addr} {ys rv zv mv : List Value} {M : Led} {h0 h1 h2 h3 a b tt : List Nat} {w0 w1 w2 w3 : List Nat} (e1 : f "home" = some (.ref hm)) (e2 : f "drawn" = some (.ref dl)) (e3 : f "rest" = some (.ref ar)) (e4 : f "text" = some (.str (toS tt) tx)) (k3 : (c 3, It.ce (some (.ref Z.x))) ∈ L) (k6 : (c 6, It.ce (some (.ref r0))) ∈ L) (k8 : (c 8, It.ce (some (.ref g5))) ∈ L)
    (HZ : LexOk B Z) (hx : (Z.x, .ob Z.o) ∈ L) (hdx : (Z.dx, dn (lexD ln kz (.ref Z.fs) Z.w Z.p)) ∈ L) (mh : (hm, It.ls ys) ∈ L) (md : (dl, It.ls [.ref d0, .ref d1, .ref d2, .ref d3]) ∈ L) (mr : (ar, It.ls rv) ∈ L) (mz : (r0, It.ls zv) ∈ L) (mm : (g5, It.ls mv) ∈ L)
    (hM : Sub M L) (hy : Are (fun (p : List Nat × List Nat) v => ∃ d, v = .ref d ∧ LsN M d p.2) [(w0, h0), (w1, h1), (w2, h2), (w3, h3)] ys) (i0 : LsN L d0 h0) (i1 : LsN L d1 h1) (i2 : LsN L d2 h2) (i3 : LsN L d3 h3)
    (hr : StrsAre rv (toksOf a [101, 110, 100] ++ (b.map nameOf ++ [toS []]))) (hz : StrsAre zv (a.map nameOf)) (hv : StrsAre mv (b.map nameOf)) (la : a.length ≤ 90) (lb : b.length ≤ 90) (oa : ∀ y ∈ a, y < 16) (ob : ∀ y ∈ b, y < 16) (hln : ln = 1 + nlc tt)
    (h : ∀ L', Q (.ret (.bool true)) L') : T B (n + 10) (execs (bodyFrom B.w.params 40) env) ((F, .nf f) :: L) Q := by
  have s1 := strsAre_len hz
  have s2 := strsAre_len hv
  rw [List.length_map] at s1 s2
  refine T_from rfl ?_
  repeat nest_cls
  refine T_And3 ?_
  repeat nest_cls
  refine T_eqLists (xs := [h0.map ci, h1.map ci, h2.map ci, h3.map ci]) (.tail _ mh) (rd_are (xs := [(w0, h0), (w1, h1), (w2, h2), (w3, h3)]) (fun p hp => .tail _ (hM p hp)) hy) (.tail _ md) (rd_are (M := L) (xs := [(w0, h0), (w1, h1), (w2, h2), (w3, h3)]) (fun p hp => .tail _ hp) (.cons ⟨_, rfl, i0⟩ (.cons ⟨_, rfl, i1⟩ (.cons ⟨_, rfl, i2⟩ (.cons ⟨_, rfl, i3⟩ .nil))))) (Nat.le_add_left 1 _) ?_
  repeat nest_cls
  refine T_addList (by tb_rel) (by tb_rel) (szk (by rw [s1]; exact Nat.le_trans (Nat.add_le_add_right la 2) (by decide))) fun as1 => ?_
  repeat nest_cls
  refine T_addList (by tb_rel) (by tb_rel) (szk (by simp only [List.length_cons, List.length_nil, List.length_append]; omega)) fun as2 => ?_
  repeat nest_cls
  refine T_addList (by tb_rel) (by tb_rel) (szk (by simp only [List.length_cons, List.length_nil, List.length_append]; omega)) fun as3 => ?_
  repeat nest_cls
  refine T_eqStrs (xs := toksOf a [101, 110, 100] ++ (b.map nameOf ++ [toS []])) (by tb_rel) hr (by tb_rel) ?sx ?sy (Nat.le_add_left 1 _) ?_
  case sx => exact rest_strs hz hv _ _ _
  case sy =>
    intro x hx
    unfold toksOf at hx
    simp only [List.mem_append, List.mem_map, List.mem_cons, List.not_mem_nil, or_false] at hx
    rcases hx with (⟨y, hy, rfl⟩ | rfl | rfl) | ⟨y, hy, rfl⟩ | rfl
    · exact name_ok y (oa y hy)
    · decide +kernel
    · decide +kernel
    · exact name_ok y (ob y hy)
    · decide +kernel
  repeat nest_cls
  refine T_ga (cls153 O) (by tb_rel) (by tb_rel) HZ.inst HZ.ne rfl mN_lineno ob_none1 rfl ?_
  repeat nest_cls
  refine ⟨_, cal_str PySem.F.slot_str_count PySem.F.type_str_count, ?_⟩
  repeat nest_cls
  refine T_count fun kc => ?_
  rw [count_nlc]
  repeat nest_cls
  rw [hln, beq_self_eq_true]
  exact h _
end
end New
namespace New
section
variable {B : Bg} {n : Nat} {L L' : Led} {env : Env} {F : Addr} {c : Nat → Addr} {f f' : Str → Option Value} {Q : Flow → Led → Prop} {seed big mid : Nat} {dl d0 d1 d2 d3 nl : Addr} {h0 h1 h2 h3 : List Nat} {Z Y : LexA} {hd r0 r1 rl r2 r3 g3 g4 gm el : Addr} {gs3 gs4 gs5 fr : List Nat} {e1 e2 e3 e4 e5 : Nat} {L0 R0 bx0 R1 ot0 R2 bx L1 ot L2 : List Nat}
set_option maxHeartbeats 4000000
theorem LawE.mono (s : Sub L L') (K : LawE B c L mid dl d0 d1 d2 d3 nl h0 h1 h2 h3 Z Y hd r0 r1 rl r2 r3 g3 g4 gm el gs3 gs4) : LawE B c L' mid dl d0 d1 d2 d3 nl h0 h1 h2 h3 Z Y hd r0 r1 rl r2 r3 g3 g4 gm el gs3 gs4 :=
  ⟨K.r.mono s, s _ K.c8, K.q3.mono s, K.q4.mono s, s _ K.el⟩
theorem LawI.kept {ns : List Str} (k : Kept ns f f') (K : LawI f e1 e2 e3 e4 e5) (h : ((["early", "some", "more", "less", "least"] : List Str).all fun y => !(ns.contains y)) = true) : LawI f' e1 e2 e3 e4 e5 := by
  have h' : ∀ y ∈ (["early", "some", "more", "less", "least"] : List Str), ns.contains y = false := fun y hy => Bool.not_eq_true' _ ▸ List.all_eq_true.mp h y hy
  exact ⟨K.a.elim fun t e => ⟨t, kept_ap k (h' _ (.head _)) e⟩, K.b.elim fun t e => ⟨t, kept_ap k (h' _ M1) e⟩, K.c.elim fun t e => ⟨t, kept_ap k (h' _ M2) e⟩, K.d.elim fun t e => ⟨t, kept_ap k (h' _ M3) e⟩, K.e.elim fun t e => ⟨t, kept_ap k (h' _ M4) e⟩⟩
theorem sorted_ci {h : List Nat} (k : DrOk h) : (h.map ci).Pairwise (· ≤ ·) := List.pairwise_map.mpr (k.lt.imp fun h => Int.ofNat_le.mpr (Nat.le_of_lt h))
theorem je (O : Our B) (E : EnvIs env lawKs F (lawCl c)) (K : LawF f seed big dl (textN seed [h0, h1, h2, h3] 4)) (fe : f "end" = some (.ref el)) (I : LawI f e1 e2 e3 e4 e5) (D : LawD big mid h0 h1 h2 h3) (HZ : LexOk B Z) (HY : LexOk B Y)
    (M1' : PL h0 h1 L0 R0 e1) (M2' : PL R0 h2 bx0 R1 e2) (M3' : PL R1 h3 ot0 R2 e3) (M4' : PL L0 bx0 bx L1 e4) (M5' : PL L1 ot0 ot L2 e5) (x1 : gs3.Perm bx) (x2 : gs4.Perm ot) (x3 : gs5.Perm L2) (x4 : fr.Perm R2) {fv gv lv lw : List Value} {cs0 : List Nat} {kz ky : Tok} {ln : Int} (m0 : StrsAre fv (fr.map nameOf)) (m1 : StrsAre gv (gs5.map nameOf)) (ufr : ∀ y ∈ fr, Us h0 h1 h2 h3 y) (u3 : ∀ y ∈ gs3, Us h0 h1 h2 h3 y) (u4 : ∀ y ∈ gs4, Us h0 h1 h2 h3 y) (u5 : ∀ y ∈ gs5, Us h0 h1 h2 h3 y)
    (hlv : Left lv cs0) (hlw : Left lw []) (hcs : tokRun cs0 = ([101, 110, 100], [])) (hcz : cs0.length ≤ 900) (hln : ln + nlc cs0 = 1 + nlc (textN seed [h0, h1, h2, h3] 4))
    (W : LawE B c L mid dl d0 d1 d2 d3 nl h0 h1 h2 h3 Z Y hd r0 r1 rl r2 r3 g3 g4 gm el gs3 gs4)
    (h : ∀ L', Q (.ret (.bool true)) L') :
    T B (n + 10) (execs (bodyFrom B.w.params 32) env) ((F, .nf f) :: (Z.p, .ls []) :: (Y.p, .ls []) :: (r0, .ls fv) :: (gm, .ls gv) :: (Z.dx, dn (lexD ln kz (.ref Z.fs) Z.w Z.p)) :: (Z.sl, .ls lv) :: (Y.dx, dn (lexD 1 ky (.ref Y.fs) Y.w Y.p)) :: (Y.sl, .ls lw) :: L) Q := by
  have b0 : h0.length ≤ 4 := D.l0 ▸ D.b4
  have l10 : h1.length ≤ h0.length := by rw [D.l0, D.l1]; exact D.mb
  have lf : fr.length = h0.length := by rw [x4.length_eq, M3'.rlen, M2'.rlen, M1'.rlen]
  have l5 : gs5.length = h1.length := by rw [x3.length_eq, M5'.rlen, M4'.rlen, M1'.glen]
  have l3 : gs3.length ≤ gs5.length := by rw [l5, x1.length_eq, M4'.glen, M2'.glen]; exact D.l1 ▸ D.l2
  have l4 : gs4.length ≤ gs5.length := by rw [l5, x2.length_eq, M5'.glen, M3'.glen]; exact D.l1 ▸ D.l3
  have z : ∀ {a : Nat}, a ≤ 4 → 0 + a ≤ 100 := fun h => by rw [Nat.zero_add]; exact Nat.le_trans h (by decide)
  have bf : fr.length ≤ 4 := lf ▸ b0
  have b5 : gs5.length ≤ 4 := l5 ▸ Nat.le_trans l10 b0
  refine W.r.hk.elim fun kvs hk => ?_
  generalize hz2 : (Z.dx, dn (lexD ln kz (.ref Z.fs) Z.w Z.p)) = pz
  generalize hy2 : (Y.dx, dn (lexD 1 ky (.ref Y.fs) Y.w Y.p)) = py
  have s7 : ∀ {M : Led} {a b i j k l m : Addr × It}, Sub M (a :: b :: i :: j :: k :: l :: m :: M) := fun p hp => J1 (J1 (J1 (J1 (J1 (J1 (J1 hp))))))
  refine s32 (pre := []) (a := fr) (m := lexD ln kz (.ref Z.fs) Z.w Z.p) O E (s7 _ W.r.c3) (s7 _ W.r.c6) HZ (s7 _ W.r.hZ.x) (hz2 ▸ M3) rfl rfl M1 m0 .nil (z bf) fun f1 pv1 k1 a1 => ?_
  replace a1 : StrsAre pv1 (fr.map nameOf) := a1
  refine T_pick (L' := (F, .nf f1) :: (Y.p, .ls []) :: (gm, .ls gv) :: (Z.p, .ls pv1) :: (r0, .ls fv) :: pz :: (Z.sl, .ls lv) :: py :: (Y.sl, .ls lw) :: L) (by kct_strs) ?_
  refine s33 (pre := []) (a := gs5) (m := lexD 1 ky (.ref Y.fs) Y.w Y.p) O E (s7 _ W.r.c4) (s7 _ W.c8) HY (s7 _ W.r.hY.x) (hy2 ▸ M5) rfl rfl (.head _) m1 .nil (z b5) fun f2 pv2 k2 a2 => ?_
  replace a2 : StrsAre pv2 (gs5.map nameOf) := a2
  have K2 := (K.kept k1 rfl).kept k2 rfl
  have I2 := (I.kept k1 rfl).kept k2 rfl
  have fe2 := kept_ap k2 rfl (kept_ap k1 rfl fe)
  have s6 : ∀ {M : Led} {a b i j k l : Addr × It}, Sub M (a :: b :: i :: j :: k :: l :: M) := fun p hp => J1 (J1 (J1 (J1 (J1 (J1 hp)))))
  refine W.q3.elim fun w3 q3 => W.q4.elim fun w4 q4 => ?_
  refine s34 (m := lexD 1 ky (.ref Y.fs) Y.w Y.p) O E (s6 _ W.r.c4) (s6 _ W.r.c5) (s6 _ W.c8) fe2 (s6 _ W.el) (s6 _ q3.1) (s6 _ q4.1) (s6 _ hk.1) HY (s6 _ W.r.hY.x) (hy2 ▸ M4) rfl rfl rfl a2 m1 q3.2 q4.2 hk.2 u5 u3 u4 l3 l4 (Nat.le_trans b5 (by decide)) fun ac3 t5 t6 g5 g6 n6 n7 v6 v7 w5 w6 pv3 hv3 ys1 ys2 xs6 xs7 ea P6 P7 y1 y2 y3 y4 i1 i2 i3 i4 i5 => ?_
  have A6 := P6.all u5 u4
  have A7 := P7.all A6.2 u3
  obtain ⟨c1, c2, c3⟩ := pass_up M5' x3 x2 P6
  obtain ⟨c4, c5, c6⟩ := pass_up M4' c3 x1 P7
  subst c1 c4
  have eL : Sub L (ea ++ L) := fun p hp => List.mem_append_right _ hp
  have E1 : Sub ea (ea ++ L) := fun p hp => List.mem_append_left _ hp
  have W1 := W.mono eL
  refine T_pick (L' := (F, .nf (up f2 "third" (.ref ac3))) :: (Y.p, .ls pv3) :: (gm, .ls hv3) :: (Z.p, .ls pv1) :: (r0, .ls fv) :: pz :: (Z.sl, .ls lv) :: py :: (Y.sl, .ls lw) :: (ea ++ L)) (.cons .head (.cons .head (.cons .head (.cons rem_app (.cons rem_app (.cons rem_app (.cons rem_app (.cons rem_app (.cons rem_app .refl))))))))) ?_
  refine T_pick (L' := (F, .nf (up f2 "third" (.ref ac3))) :: (Z.p, .ls pv1) :: (r0, .ls fv) :: (Y.p, .ls pv3) :: (gm, .ls hv3) :: pz :: (Z.sl, .ls lv) :: py :: (Y.sl, .ls lw) :: (ea ++ L)) (by kct_strs) ?_
  have ly1 : ys1.length ≤ fr.length := by rw [P6.glen, lf]; exact Nat.le_trans l4 (l5 ▸ l10)
  have ly2 : ys2.length ≤ fr.length := by rw [P7.glen, lf]; exact Nat.le_trans l3 (l5 ▸ l10)
  refine s35 (m := lexD ln kz (.ref Z.fs) Z.w Z.p) O E (s6 _ W1.r.c3) (s6 _ W1.r.c5) (s6 _ W1.r.c6) up_eq (s6 _ (E1 _ i1)) (s6 _ (E1 _ i2)) (s6 _ (E1 _ i3)) (s6 _ (E1 _ i4)) (s6 _ (E1 _ i5)) (s6 _ (eL _ hk.1)) HZ (s6 _ W1.r.hZ.x) (hz2 ▸ M2) rfl rfl rfl a1 m0 y1 y2 hk.2 ufr A6.1 A7.1 ly1 ly2 (Nat.le_trans bf (by decide)) fun ac4 t7 t8 g7 g8 n8 n9 v8 v9 w7 w8 pv4 hv4 zs1 zs2 xs8 xs9 eb P8 P9 y5 y6 y7 y8 j1 j2 j3 j4 j5 => ?_
  have A8 := P8.all ufr A6.1
  have A9 := P9.all A8.2 A7.1
  obtain ⟨c7, c8, c9⟩ := pass_up M3' x4 c2 P8
  obtain ⟨c10, c11, c12⟩ := pass_up M2' c9 c5 P9
  subst c7 c10
  have fL : Sub (ea ++ L) (eb ++ (ea ++ L)) := fun p hp => List.mem_append_right _ hp
  have E2 : Sub eb (eb ++ (ea ++ L)) := fun p hp => List.mem_append_left _ hp
  have W2 := W1.mono fL
  refine T_pick (L' := (F, .nf (up (up f2 "third" (.ref ac3)) "fourth" (.ref ac4))) :: (Z.p, .ls pv4) :: (r0, .ls hv4) :: (Y.p, .ls pv3) :: (gm, .ls hv3) :: pz :: (Z.sl, .ls lv) :: py :: (Y.sl, .ls lw) :: (eb ++ (ea ++ L))) (.cons .head (.cons .head (.cons .head (.cons rem_app (.cons rem_app (.cons rem_app (.cons rem_app (.cons rem_app (.cons rem_app .refl))))))))) ?_
  have len7 : (xs7 ++ gs3).length = h1.length := by rw [P7.len, P6.len, l5]
  have len9 : (xs9 ++ ys2).length = h0.length := by rw [P9.len, P8.len, lf]
  refine s36 (m := lexD ln kz (.ref Z.fs) Z.w Z.p) O E (s6 _ W2.r.c3) (s6 _ W2.r.c5) (s6 _ W2.r.c6) (s6 _ W2.c8) M1 (s6 _ (fL _ (eL _ hk.1))) HZ (s6 _ W2.r.hZ.x) (hz2 ▸ M2) rfl rfl rfl y7 y8 y4 hk.2 A9.2 A7.2 (by rw [len7, len9]; exact l10) (by rw [len9]; exact Nat.le_trans b0 (by decide)) fun tp gl v10 w9 pv5 hv5 zs3 n10 xs10 P10 y9 q1 q2 => ?_
  have A10 := P10.all A9.2 A7.2
  obtain ⟨c13, c14, c15⟩ := pass_up M1' c12 c6 P10
  subst c13
  have len10 : (xs10 ++ (xs7 ++ gs3)).length = h0.length := by rw [P10.len, len9]
  show T B (n + 10) (execs (bodyFrom B.w.params 37) env) ((F, _) :: (Z.p, .ls pv5) :: (r0, .ls hv5) :: (tp, _) :: (gl, .ls w9) :: (Y.p, .ls pv3) :: (gm, .ls hv3) :: pz :: (Z.sl, .ls lv) :: py :: (Y.sl, .ls lw) :: (eb ++ (ea ++ L))) Q
  have s9 : ∀ {a b i j k l m o p q : Addr × It}, Sub (eb ++ (ea ++ L)) (a :: b :: i :: j :: k :: l :: m :: o :: p :: q :: (eb ++ (ea ++ L))) := fun p hp => J8 (J1 (J1 hp))
  refine I2.a.elim fun o1 I1 => I2.b.elim fun o2 Ib => I2.c.elim fun o3 Ic => I2.d.elim fun o4 Id => I2.e.elim fun o5 Ie => ?_
  refine s37 E (up_ne rfl (up_ne rfl (up_ne rfl up_eq))) (up_ne rfl (up_ne rfl up_eq)) up_eq (s9 _ (fL _ (E1 _ i1))) (s9 _ (E2 _ j1)) (s9 _ (fL _ (E1 _ i2))) (s9 _ (fL _ (E1 _ i3))) (s9 _ (E2 _ j2)) (s9 _ (E2 _ j3)) (up_ne rfl (up_ne rfl (up_ne rfl (up_ne rfl Ie)))) (up_ne rfl (up_ne rfl (up_ne rfl (up_ne rfl Id)))) (up_ne rfl (up_ne rfl (up_ne rfl (up_ne rfl Ic)))) (up_ne rfl (up_ne rfl (up_ne rfl (up_ne rfl Ib)))) (up_ne rfl (up_ne rfl (up_ne rfl (up_ne rfl I1)))) ?_
  have hp : ∀ p ∈ [(xs10 ++ (xs7 ++ gs3), h0), (zs3, h1), (zs2, h2), (zs1, h3)], p.1.Perm p.2 ∧ (p.2.map ci).Pairwise (· ≤ ·) ∧ (∀ z ∈ p.1, z < 16) ∧ p.1.length < 64 := by
    have b : ∀ {a : Nat}, a ≤ 4 → a < 64 := fun h => Nat.lt_of_le_of_lt h (by decide)
    intro p hm
    cases hm with
    | head => exact ⟨c15, sorted_ci D.k0, fun z hz => (A10.2 z hz).2, b (len10 ▸ b0)⟩
    | tail _ hm => cases hm with
      | head => exact ⟨c14, sorted_ci D.k1, fun z hz => (A10.1 z hz).2, b (c14.length_eq ▸ Nat.le_trans l10 b0)⟩
      | tail _ hm => cases hm with
        | head => exact ⟨c11, sorted_ci D.k2, fun z hz => (A9.1 z hz).2, b (c11.length_eq ▸ (Nat.le_trans D.l2 (Nat.le_trans D.mb D.b4)))⟩
        | tail _ hm => cases hm with
          | head => exact ⟨c8, sorted_ci D.k3, fun z hz => (A8.1 z hz).2, b (c8.length_eq ▸ (Nat.le_trans D.l3 (Nat.le_trans D.mb D.b4)))⟩
          | tail _ hm => cases hm
  refine s38 O E (s9 _ W2.r.k.c1) (W2.r.k.hnl.mono s9) (s9 _ W2.r.c6) (up_ne rfl up_eq) (up_ne rfl (up_ne rfl up_eq)) (s9 _ (E2 _ j1)) (s9 _ (E2 _ j2)) (s9 _ (E2 _ j3)) ⟨hv5, M1, q2⟩ ⟨w9, M3, y9⟩ ⟨w8, s9 _ (E2 _ j5), y6⟩ ⟨w7, s9 _ (E2 _ j4), y5⟩ hp fun hm ys ec hy => ?_
  have eC : Sub (eb ++ (ea ++ L)) (ec ++ (eb ++ (ea ++ L))) := fun p hp => List.mem_append_right _ hp
  have W3 := W2.mono eC
  refine T_pick (L' := (F, .nf (up (up (up (up (up f2 "third" (.ref ac3)) "fourth" (.ref ac4)) "last" (.ref gl)) "again" (.int ((e1 : Nat) : Int) v10)) "home" (.ref hm))) :: (hm, .ls ys) :: (Z.p, .ls pv5) :: (r0, .ls hv5) :: (tp, _) :: (gl, .ls w9) :: (Y.p, .ls pv3) :: (gm, .ls hv3) :: pz :: (Z.sl, .ls lv) :: py :: (Y.sl, .ls lw) :: (ec ++ (eb ++ (ea ++ L)))) (.cons .head (.cons .head (.cons rem_app (.cons rem_app (.cons rem_app (.cons rem_app (.cons rem_app (.cons rem_app (.cons rem_app (.cons rem_app (.cons rem_app (.cons rem_app .refl)))))))))))) ?_
  subst hz2 hy2
  refine T_pick (L' := (F, .nf (up (up (up (up (up f2 "third" (.ref ac3)) "fourth" (.ref ac4)) "last" (.ref gl)) "again" (.int ((e1 : Nat) : Int) v10)) "home" (.ref hm))) :: (Z.dx, dn (lexD ln kz (.ref Z.fs) Z.w Z.p)) :: (Z.p, .ls pv5) :: (Z.sl, .ls lv) :: (Y.dx, dn (lexD 1 ky (.ref Y.fs) Y.w Y.p)) :: (Y.p, .ls pv3) :: (Y.sl, .ls lw) :: (hm, .ls ys) :: (r0, .ls hv5) :: (gm, .ls hv3) :: (ec ++ (eb ++ (ea ++ L)))) (by kct_strs) ?_
  have sH : Sub (ec ++ (eb ++ (ea ++ L))) ((hm, .ls ys) :: (r0, .ls hv5) :: (gm, .ls hv3) :: (ec ++ (eb ++ (ea ++ L)))) := fun p hp => J1 (J1 (J1 hp))
  have W4 := W3.mono sH
  have K3 := ((((K2.up (x := "third") (v := .ref ac3) rfl).up (x := "fourth") (v := .ref ac4) rfl).up (x := "last") (v := .ref gl) rfl).up (x := "again") (v := .int ((e1 : Nat) : Int) v10) rfl).up (x := "home") (v := .ref hm) rfl
  refine K3.fb.elim fun tb hb => K3.ft.elim fun tx ht => W4.r.k.c0.elim fun tm hm0 => ?_
  have ea1 : (xs10 ++ (xs7 ++ gs3)).length ≤ 90 := by rw [len10]; exact Nat.le_trans b0 (by decide)
  have eb1 : (xs7 ++ gs3).length ≤ 90 := by rw [len7]; exact Nat.le_trans (Nat.le_trans l10 b0) (by decide)
  refine s39 (a := xs10 ++ (xs7 ++ gs3)) (b := xs7 ++ gs3) O E (by rw [len10, D.l0]; exact hb) (by rw [len7, D.l1]; exact hm0) W4.r.c3 W4.r.c4 HZ HY W4.r.hZ W4.r.hY ea1 eb1 q1 y3 hlv hlw hcs hcz fun ar rv ln2 kk M sM hrv hl2 => ?_
  have sA : Sub ((hm, .ls ys) :: (r0, .ls hv5) :: (gm, .ls hv3) :: (ec ++ (eb ++ (ea ++ L)))) ((ar, .ls rv) :: (Z.dx, dn (lexD ln2 kk (.ref Z.fs) Z.w Z.p)) :: M) := fun p hp => J1 (J1 (sM p hp))
  have W5 := W4.mono sA
  exact s40 (M := ec ++ []) O E (up_ne rfl up_eq) (up_ne rfl K3.fd) up_eq (up_ne rfl ht) W5.r.c3 W5.r.c6 W5.c8 HZ W5.r.hZ.x M1 (sA _ (.head _)) W5.r.k.hdl (.head _) (sA _ M1) (sA _ M2) (fun p hp => sA _ (sH _ (List.mem_append_left _ (by rw [List.append_nil] at hp; exact hp)))) hy W5.r.k.i0 W5.r.k.i1 W5.r.k.i2 W5.r.k.i3 hrv q2 y4 ea1 eb1 (fun y hy => (A10.2 y hy).2) (fun y hy => (A7.2 y hy).2) (hl2.trans hln) h
end
end New
section
variable {M : Model} {A : Around} {E : Value → Shared → Prop} {s₀ s : Shared} {m cm : Str → Option Value} {env : Env}
theorem stLC1 {n : Str} {v : Value} {Q : Unit → Shared → Prop} (x : InCallC s₀ env.locals m env.cells cm s) (hk : env.scope.kind = .function) (hl : env.kindOf n = some .local)
    (h : ∀ s', InCallC s₀ env.locals (fun y => if y = n then some v else m y) env.cells cm s' → 1 ≤ s'.toks → Q () s') : wpAny M A (storeName env n v) Q E s := by
  refine wpAny_storeName_local hl x.toInCall.ns (fun h' hn' hs' => h _ ⟨⟨?_, hn', fun b o e => ?_, x.toInCall.fresh⟩, fun k c hc => ?_, x.apart, x.above⟩ (Nat.succ_le_succ (Nat.zero_le _))) (by rw [hk]; rfl)
  · obtain ⟨h₁, tk, rfl⟩ := x.toInCall.same
    exact ⟨h', _, rfl⟩
  · exact hs'.extBut b o (Nat.ne_of_lt (Nat.lt_of_lt_of_le (Heap.lt_size e) x.toInCall.fresh)) (x.toInCall.keep b o e)
  · exact (x.cell k c hc).sameBut hs' (Nat.ne_of_gt (x.above k c (mem_of_lookup hc)))
end
section
variable {M : Model} {A : Around} {E : Value → Shared → Prop} {s : Shared}
theorem newEnv_one {scope : Scope} {globals : Addr} {n : Str} {v : Value} {qual : Str} {func : Option Addr} {code : Value} {builtins : Addr} {Q : Env → Shared → Prop}
    (hk : scope.kind = .function) (hl : scope.names.lookup n = some .local)
    (hQ : ∀ env, env = newEnv scope s.heap.objs.size globals (cellsFrom (s.heap.objs.size + 1) scope.names []) qual func code none builtins →
      ∀ s', InCallC s env.locals (bindL env.kindOf [(n, v)] fun ι => none) env.cells (bindC env.kindOf [(n, v)] fun ι => none) s' → 1 ≤ s'.toks → Q env s') :
    wpAny M A (newFunctionEnv scope globals [] [(n, v)] qual func code none builtins) Q E s := by
  simp only [newFunctionEnv, Option.isSome_none, Bool.false_eq_true, if_false]
  refine wpAny_bind (wpAny_alloc ?_)
  refine wpAny_bind (wpAny_layCells _ (fun name kind cells => by cases hkc : kind == NameKind.cell <;> simp [hkc]) _ _ _ _ ?_)
  have ok := cellsFrom_ok scope.names (s.heap.push { cls := .type "frame", data := .dict #[] }) (s.heap.objs.size + 1) [] ⟨fun ι ι hm => (nomatch hm), List.Pairwise.nil⟩ (by rw [Heap.size_push]; exact Nat.le_refl _)
  rw [Heap.size_push] at ok
  rw [show ({ s with heap := s.heap.push { cls := .type "frame", data := .dict #[] } } : Shared).heap.objs.size = s.heap.objs.size + 1 from Heap.size_push ..]
  have hkd : (newEnv scope s.heap.objs.size globals (cellsFrom (s.heap.objs.size + 1) scope.names []) qual func code none builtins).kindOf n = some .local := hl
  refine wpAny_bind ?_
  rw [List.forIn_cons]
  refine wpAny_bind (wpAny_bind (stLC1 (s₀ := s) (env := newEnv scope s.heap.objs.size globals (cellsFrom (s.heap.objs.size + 1) scope.names []) qual func code none builtins) (m := fun ι => none) (cm := fun ι => none)
    ⟨⟨⟨_, _, rfl⟩, (Heap.Ns.new s.heap (.type "frame")).keeps (pushCells_keeps _ _), fun b o e => pushCells_keeps _ _ b o (Heap.get?_push_of_some _ e), Nat.le_refl _⟩,
      fun n c hc => (ok.empty n c (mem_of_lookup hc)).1, ok.apart, fun n c hm => (ok.empty n c hm).2⟩ hk hkd fun s' x' htk => wpAny_pure ?_))
  dsimp only
  rw [List.forIn_nil]
  refine wpAny_pure (wpAny_pure (hQ _ rfl s' ?_ htk))
  unfold bindL bindC bindL bindC
  rw [if_pos hkd, if_pos hkd]
  exact x'
end
section
variable {B : Bg} {n : Nat} {L : Led}
theorem call0 {fo : Obj} {fd : FuncData} {f : Addr} {body : List Stmt} {xn : Str} {v : Value} (more : List Str) (ks : List (Str × NameKind)) (fr : List (Str × Option Value)) (ini : List (Str × Nat × Option Value)) (cl : (Nat → Addr) → List (Str × Addr)) (cel : (Nat → Addr) → Led) {Q : Value → Led → Prop} {A : Around} {s : Shared}
    (ho : s.heap.get? f = some fo) (hd : fo.data = .func fd) (hc : s.heap.CodeRec fd.code fd.qualname) (hbody : fd.body = .stmts body) (hbind : bindArgs fd ⟨[v], []⟩ = pure [(xn, v)])
    (hloc : fd.scope.names.lookup xn = some .local)
    (hini : ((cellsFrom 0 fd.scope.names []).map fun y => (y.1, y.2, (none : Option Value))) = ini) (hcl : ∀ c, (ini.map fun y => (y.1, c y.2.1)) = cl c) (hcel : ∀ c, (ini.map fun y => (c y.2.1, It.ce y.2.2)) = cel c)
    (hks : (ks.all fun p => fd.scope.names.lookup p.1 == some p.2 && !(p.1 == ("__debug__" : Str)) && !(p.1 == ("__classdict__" : Str))) = true) (hfr : frame0 [(xn, v)] more = fr) (hnd : decide (fr.map (·.1)).Nodup = true) (hcn : decide ((cellsFrom 0 fd.scope.names []).map (·.1)).Nodup = true) (hin : decide ((cellsFrom 0 fd.scope.names []).map (·.2)).Nodup = true)
    (hg : fd.globals = mainGlobals) (hbi : fd.builtins = builtinsNs) (hclo : fd.closure = [])
    (hco : fd.scope.isCoroutine = false) (hgen : fd.scope.isGenerator = false) (hk : fd.scope.kind = .function)
    (S : St B L { s with toks := s.toks + 1 }) (hA : Rm (n + 1) A)
    (h : ∀ F env c, EnvIs env ks F (cl c) → env.code = fd.code → env.qual = fd.qualname ++ ".<locals>." → T B n (execs body env) ((F, .ns fr) :: (cel c ++ L)) fun fl L' => Q (retOf fl) L') :
    wpAny (model B.prog B.w) A (call (.ref f) [v]) (fun a s' => ∃ L', St B L' s' ∧ Q a L') (fun ι ι => False) s := by
  subst hfr
  refine wpAny_runValue (codeAny_mono (R := fun r s' => ∃ f L', r = .ok f ∧ St B L' s' ∧ RetQ Q f L') ?_ fun r s' ⟨f, L', e, S', v, e', h'⟩ => by subst e; subst e'; exact ⟨L', S', h'⟩)
  refine codeAny_call_function hA.room ho hd hco hgen hbody hc ?_
  rw [hbind, hclo]
  refine wpAny_pure (newEnv_one hk hloc fun env he s' x htk => ?_)
  obtain ⟨h₁, tk, e, hkp⟩ := x.done
  subst e
  have hlt := x.toInCall.ns.lt
  let c : Nat → Addr := fun k => s.heap.objs.size + 1 + k
  have hcells : env.cells = (cellsFrom 0 fd.scope.names []).map fun y => (y.1, c y.2) := by
    rw [he]
    exact cellsFrom_shift fd.scope.names (s.heap.objs.size + 1) 0 [] [] rfl
  have hloc' : env.locals = s.heap.objs.size := by rw [he]; rfl
  have hko : env.kindOf = fun x => fd.scope.names.lookup x := by rw [he]; rfl
  have hcl' : env.cells = cl c := by
    rw [hcells, ← hcl c, ← hini, List.map_map]
    rfl
  have hlb : ([(xn, v)].filter fun b => decide (fd.scope.names.lookup b.1 = some .local)) = [(xn, v)] := by simp [hloc]
  have hcb : ([(xn, v)].filter fun b => !decide (fd.scope.names.lookup b.1 = some .local)) = [] := by simp [hloc]
  have S₁ : St B ((s.heap.objs.size, .ns (frame0 [(xn, v)] more)) :: (cel c ++ L)) { s with heap := h₁, toks := s.toks + 1 } := by
    have := S.addList (h' := h₁) (new := (s.heap.objs.size, It.ns (frame0 [(xn, v)] more)) :: cel c) hkp (Nat.le_of_lt (by rw [hloc'] at hlt; exact hlt)) (fun p hp => ?_) ?_
    · exact this
    · rcases List.mem_cons.mp hp with rfl | hp
      · refine ⟨Nat.le_refl _, ?_, of_decide_eq_true hnd⟩
        have hns := x.toInCall.ns
        rw [hloc'] at hns
        have e : (fun x => ((frame0 [(xn, v)] more).lookup x).join) = bindL env.kindOf [(xn, v)] fun ι => none := by
          funext y
          rw [bindL_is, hko, hlb]
          unfold frame0
          rw [frame0_lookup [(xn, v)].reverse more y, Option.or_none]
        show h₁.Ns _ (fun x => ((frame0 [(xn, v)] more).lookup x).join)
        rw [e]; exact hns
      · rw [← hcel c, ← hini, List.map_map] at hp
        obtain ⟨y, hy, rfl⟩ := List.mem_map.mp hp
        refine ⟨by show s.heap.objs.size ≤ s.heap.objs.size + 1 + y.2; exact Nat.le_trans (Nat.le_succ _) (Nat.le_add_right _ _), ?_⟩
        have hl : env.cells.lookup y.1 = some (c y.2) := by
          rw [hcells]
          exact lookup_of_mem (by rw [List.map_map]; exact of_decide_eq_true hcn) (List.mem_map_of_mem (f := fun y => (y.1, c y.2)) hy)
        have := x.cell y.1 (c y.2) hl
        rw [bindC_is, hko, Option.or_none, hcb] at this
        exact this
    · rw [List.map_cons, ← hcel c, ← hini, List.map_map, List.map_map]
      refine List.nodup_cons.mpr ⟨fun hm => ?_, ?_⟩
      · obtain ⟨y, hy, e⟩ := List.mem_map.mp hm
        have : s.heap.objs.size + 1 + y.2 = s.heap.objs.size := e
        omega
      · have hin' := of_decide_eq_true hin
        have e : (cellsFrom 0 fd.scope.names []).map ((fun p : Addr × It => p.1) ∘ (fun y : Str × Nat × Option Value => (c y.2.1, It.ce y.2.2)) ∘ fun y => (y.1, y.2, (none : Option Value))) = ((cellsFrom 0 fd.scope.names []).map (·.2)).map c := by rw [List.map_map]; rfl
        have fin := List.Pairwise.map (S := fun a b : Addr => a ≠ b) c (fun a b hab z => hab (Nat.add_left_cancel z)) hin'
        rw [← e] at fin
        exact fin
  have S₂ : St B ((s.heap.objs.size, .ns (frame0 [(xn, v)] more)) :: (cel c ++ L)) { s with heap := h₁, toks := tk } := S₁.toks (t := tk) htk
  refine ⟨S₂.lim, codeAny_func ?_⟩
  have hks' : ∀ p ∈ ks, fd.scope.names.lookup p.1 = some p.2 ∧ (p.1 == ("__debug__" : Str)) = false ∧ (p.1 == ("__classdict__" : Str)) = false := fun p hp => by
    have := List.all_eq_true.mp hks p hp
    simp only [Bool.and_eq_true, Bool.not_eq_true', beq_iff_eq] at this
    exact ⟨this.1.1, this.1.2, this.2⟩
  have E : EnvIs env ks s.heap.objs.size (cl c) := ⟨by rw [he]; exact hk, fun p hp => by rw [hko]; exact (hks' p hp).1, fun p hp => (hks' p hp).2, hloc', by rw [he]; exact hg, by rw [he]; exact hbi, hcl', by rw [← hcl', hcells, List.map_map]; exact of_decide_eq_true hcn⟩
  refine wpAny_mono (h _ env c E (by rw [he]; rfl) (by rw [he]; rfl) _ hA.deeper _ S₂) (fun fl s' ⟨L', S', h'⟩ => ?_) fun ι ι x => x.elim
  refine ⟨_, L', rfl, S', retOf fl, ?_, h'⟩
  cases fl <;> rfl
end
set_option tactic.hygienic true in
theorem booked_of {K : Frag} {h : Heap} {mg : Str → Option Value} {n : Str} {a : Addr} (X : K.In h) (G : h.Ns a mg) (e : nsIn K a n = some none) : mg n = none := by
  obtain ⟨o, es, ep, ho, hd, _, hf⟩ := G
  unfold nsIn at e
  split at e
  · rename_i c d es' n' sl q
    have := X _ _ q
    rw [ho] at this
    cases this
    cases hd
    split at e
    · cases e
    · rename_i he
      rw [← hf]
      unfold nsFind findBy
      rw [← Array.find?_toList, he]
      rfl
  · cases e
section
variable {B : Bg} {n : Nat} {L : Led}
theorem call0S (O : Our B) (f : Addr) {xn : Str} {v : Value} (more : List Str) (ks : List (Str × NameKind)) (fr : List (Str × Option Value)) (ini : List (Str × Nat × Option Value)) (cl : (Nat → Addr) → List (Str × Addr)) (cel : (Nat → Addr) → Led) {oc : Value} {od : Option Addr} {osl : Array (Option Value)} {fd : FuncData} {body : List Stmt} {Q : Value → Led → Prop} {A : Around} {s : Shared}
    (hget : (KK B.w.params).lookup f = some ⟨oc, od, .func fd, osl⟩) (hc : codeIn (KK B.w.params) fd.code fd.qualname = true) (hbody : fd.body = .stmts body) (hbind : bindArgs fd ⟨[v], []⟩ = pure [(xn, v)])
    (hloc : fd.scope.names.lookup xn = some .local)
    (hini : ((cellsFrom 0 fd.scope.names []).map fun y => (y.1, y.2, (none : Option Value))) = ini) (hcl : ∀ c, (ini.map fun y => (y.1, c y.2.1)) = cl c) (hcel : ∀ c, (ini.map fun y => (c y.2.1, It.ce y.2.2)) = cel c)
    (hks : (ks.all fun p => fd.scope.names.lookup p.1 == some p.2 && !(p.1 == ("__debug__" : Str)) && !(p.1 == ("__classdict__" : Str))) = true) (hfr : frame0 [(xn, v)] more = fr) (hnd : decide (fr.map (·.1)).Nodup = true) (hcn : decide ((cellsFrom 0 fd.scope.names []).map (·.1)).Nodup = true) (hin : decide ((cellsFrom 0 fd.scope.names []).map (·.2)).Nodup = true)
    (hg : fd.globals = mainGlobals) (hbi : fd.builtins = builtinsNs) (hclo : fd.closure = [])
    (hco : fd.scope.isCoroutine = false) (hgen : fd.scope.isGenerator = false) (hk : fd.scope.kind = .function)
    (S : St B L { s with toks := s.toks + 1 }) (hA : Rm (n + 1) A)
    (h : ∀ F env c, EnvIs env ks F (cl c) → env.code = fd.code → env.qual = fd.qualname ++ ".<locals>." → T B n (execs body env) ((F, .ns fr) :: (cel c ++ L)) fun fl L' => Q (retOf fl) L') :
    wpAny (model B.prog B.w) A (call (.ref f) [v]) (fun a s' => ∃ L', St B L' s' ∧ Q a L') (fun ι ι => False) s :=
  have e := O.get hget
  call0 (S := S) more ks fr ini cl cel (S.keep _ _ e (notTab_fn e rfl)) rfl (S.code (codeRec_of B.inK (by rw [O.K]; exact hc))) hbody hbind hloc hini hcl hcel hks hfr hnd hcn hin hg hbi hclo hco hgen hk hA h
theorem law_call (O : Our B) {v : Value} {Q : Value → Led → Prop} {A : Around} {s : Shared} (S : St B L { s with toks := s.toks + 1 }) (hA : Rm (n + 1) A)
    (h : ∀ (F : Addr) (env : Env) (c : Nat → Addr) (f : Str → Option Value), EnvIs env lawKs F (lawCl c) → f "script" = some v → T B n (execs (bodyFrom B.w.params 0) env) ((F, .nf f) :: (c 8, .ce none) :: (c 7, .ce none) :: (c 6, .ce none) :: (c 5, .ce none) :: (c 4, .ce none) :: (c 3, .ce none) :: (c 2, .ce none) :: (c 1, .ce none) :: (c 0, .ce none) :: L) fun fl L' => Q (retOf fl) L') :
    wpAny (model B.prog B.w) A (call (.ref 195) [v]) (fun a s' => ∃ L', St B L' s' ∧ Q a L') (fun ι ι => False) s := by
  refine call0S O 195 (xn := "script") ["cells", "place", "number", "seed", "big", "drawn", "text", "one", "word", "kind", "mark", "words", "rows", "box", "first", "second", "across", "left", "right", "early", "some", "other", "more", "less", "least", "end", "third", "fourth", "last", "again", "home", "rest"] lawKs _ [("met", 8, none), ("rear", 7, none), ("front", 6, none), ("hues", 5, none), ("line", 4, none), ("lexer", 3, none), ("back", 2, none), ("names", 1, none), ("mid", 0, none)] lawCl (fun c => (c 8, .ce none) :: (c 7, .ce none) :: (c 6, .ce none) :: (c 5, .ce none) :: (c 4, .ce none) :: (c 3, .ce none) :: (c 2, .ce none) :: (c 1, .ce none) :: (c 0, .ce none) :: [])
    rfl (by kernel_rfl) (body := bodyFrom B.w.params 0) rfl rfl (by rfl) (by rfl) (fun ι => rfl) (fun ι => rfl) (by decide) rfl (by rfl) (by decide) (by decide) rfl rfl rfl rfl rfl rfl S hA ?_
  intro F env c E _ _
  exact T_nfx (P := fun f => f "script" = some v) rfl fun f hf => h F env c f E hf
end
section
variable {B : Bg} {n : Nat} {L : Led} {env : Env} {F : Addr} {c : Nat → Addr} {f : Str → Option Value} {Q : Flow → Led → Prop}
open New in
theorem law_all (O : Our B) (E : EnvIs env lawKs F (lawCl c)) {sc : Addr} {svs : List Value} {sns : List Int} (e0 : f "script" = some (.ref sc)) (hT : ∀ L, TyIs B L (.ref sc) "list") (hS : ∀ L s, St B L s → s.heap.IsList sc svs.toArray) (hI : IntsAre svs sns) (hl : svs.length ≤ 16384)
    (h : ∀ L', Q (.ret (.bool true)) L') :
    T B (n + 10) (execs (bodyFrom B.w.params 0) env) ((F, .nf f) :: (c 8, .ce none) :: (c 7, .ce none) :: (c 6, .ce none) :: (c 5, .ce none) :: (c 4, .ce none) :: (c 3, .ce none) :: (c 2, .ce none) :: (c 1, .ce none) :: (c 0, .ce none) :: L) Q :=
  ja O E e0 hT hS hI hl fun ι seed big mid dl d0 d1 d2 d3 nl h0 h1 h2 h3 L1 K KL D =>
  jb O E K KL D fun ι Z Y kz ky ln lv lw cs0 hd r0 r1 rl r2 r3 v0 v1 L2 K er HZ HY hlv hlw hcs hcz hln n0 n1 R =>
  jc O E K er HZ HY R D n0 n1 fun ι ac1 t1 t2 ac2 t3 t4 g3 g4 gm n1 n2 n3 n4 n5 u gs1 gs2 gs3 gs4 gs5 xs1 xs2 xs3 xs4 xs5 fv gv L3 K f1 f2 f3 P1 P2 P3 P4 P5 m0 m1 W =>
  have A1 := P1.all D.u1 D.u2
  have A2 := P2.all A1.2 D.u3
  have A3 := P3.all D.u0 A1.1
  have A4 := P4.all A3.2 A2.1
  have A5 := P5.all A4.2 A2.2
  jd O E K f1 f2 f3 D P1 P2 P3 P4 P5 m0 m1 W fun ι el e1 e2 e3 e4 e5 L0 R0 bx0 R1 ot0 R2 bx L1 ot L2 L4 K fe I M1' M2' M3' M4' M5' x1 x2 x3 x4 W =>
  je O E K fe I D HZ HY M1' M2' M3' M4' M5' x1 x2 x3 x4 m0 m1 A5.2 A3.1 A4.1 A5.1 hlv hlw hcs hcz hln W h
end
theorem our_heads {w : World} {h : Heap} (KX : (KK w.params).In h) : ∀ t ∈ ourTabs, CodeHd h t.c t.P := by
  intro t ht
  simp only [ourTabs, List.mem_cons, List.not_mem_nil, or_false] at ht
  rcases ht with rfl | rfl | rfl | rfl
  · exact codeHd_of_K KX (by kernel_rfl)
  · exact codeHd_of_K KX (by kernel_rfl)
  · exact codeHd_of_K KX (by kernel_rfl)
  · exact codeHd_of_K KX (by kernel_rfl)
theorem our_tabs {h : Heap} (KT : ∀ P ∈ ([37, 30, 173, 159] : List Addr), h.get? P = some (tabObj #[])) : ∀ t ∈ ourTabs, h.get? t.P = some (tabObj #[]) := by
  intro t ht
  simp only [ourTabs, List.mem_cons, List.not_mem_nil, or_false] at ht
  rcases ht with rfl | rfl | rfl | rfl
  · exact KT 30 (by decide)
  · exact KT 37 (by decide)
  · exact KT 159 (by decide)
  · exact KT 173 (by decide)
theorem our_apart : ∀ t ∈ ourTabs, ∀ t' ∈ ourTabs, t.P = t'.P → t = t' := by
  intro t ht t' ht' e
  simp only [ourTabs, List.mem_cons, List.not_mem_nil, or_false] at ht ht'
  rcases ht with rfl | rfl | rfl | rfl <;> rcases ht' with rfl | rfl | rfl | rfl <;> first | rfl | exact absurd e (by decide)
theorem our_named : ∀ t ∈ ourTabs, t.q ≠ "" := by
  intro t ht
  simp only [ourTabs, List.mem_cons, List.not_mem_nil, or_false] at ht
  rcases ht with rfl | rfl | rfl | rfl <;> decide +kernel
theorem law_final (w : World) (prog : Program) {p : Program} {loose : List Str} {mean : ExcName → Option Value} {mg mb : Str → Option Value} {s₁ : Shared} (T : Top p loose mean mg mb s₁.heap) (KX : (KK w.params).In s₁.heap) (KT : ∀ P ∈ ([37, 30, 173, 159] : List Addr), s₁.heap.get? P = some (tabObj #[])) (hg : s₁.gens = #[])
    {fa : Addr} (hmg : mg "law" = some (.ref fa)) {sc : Addr} {svs : List Value} {sns : List Int} (hL : s₁.heap.IsList sc svs.toArray) (hI : IntsAre svs sns) (hlen : sns.length ≤ 63) :
    wpAny (model prog w) callerA (call (.ref fa) [.ref sc]) (fun v s' => v = .bool true ∧ OldK s₁.heap s'.heap ∧ s'.os = s₁.os ∧ s'.gens = #[]) (fun ι ι => False) s₁ := by
  obtain ⟨mcd, hmc, hdig⟩ := T.nodigits
  have hbk : NoneBooked s₁.heap := ⟨mcd, hmc, booked_of KX hmc (by kernel_rfl)⟩
  obtain ⟨B, hprog, hw, hh, hos, hmgB, O⟩ : ∃ B : Bg, B.prog = prog ∧ B.w = w ∧ B.h0 = s₁.heap ∧ B.os = s₁.os ∧ B.mg = mg ∧ Our B :=
    ⟨{ prog := prog, w := w, K := KK w.params, h0 := s₁.heap, os := s₁.os, mg := mg, mb := mb, tabs := ourTabs
       inK := KX, g := T.g, b := T.b, bb := T.builtins, lim := T.nolimit, dig := ⟨mcd, hmc, hdig⟩, bm := T.bmain
       hd := our_heads KX, tab := our_tabs KT, tnd := our_apart, tq := our_named, nb := hbk }, rfl, rfl, rfl, rfl, rfl, ⟨rfl, rfl⟩⟩
  subst hprog hw hmgB
  have hfa : fa = 195 := by
    have h1 : B.mg "law" = some (.ref 195) := O.glob (by kernel_rfl)
    rw [h1] at hmg
    cases hmg
    rfl
  subst hfa
  have S : St B [] { s₁ with toks := s₁.toks + 1 } := by
    refine ⟨fun a o e ι => by rw [hh] at e; exact e, fun t ht => ⟨#[], ?_, trivial, fun pos cv e => nomatch e⟩, fun p hp => (nomatch hp), List.nodup_nil, fun p hp => (nomatch hp), Nat.succ_le_succ (Nat.zero_le _), ?_, hg, hos.symm⟩
    · have := B.tab t ht
      rw [hh] at this
      exact this
    · rw [hh]; exact OldK.refl _
  obtain ⟨lo, l1, l2, l3, l4⟩ := hL
  have hne : ∀ t ∈ B.tabs, sc ≠ t.P := fun t ht z => by
    have := B.tab t ht
    rw [hh, ← z, l1] at this
    cases this
    cases l2
  have hS : ∀ (L : Led) (s : Shared), St B L s → s.heap.IsList sc svs.toArray := fun L s S' => ⟨lo, S'.keep sc lo (by rw [hh]; exact l1) hne, l2, l3, l4⟩
  have hl : svs.length ≤ 16384 := by have := intsAre_len hI; omega
  refine wpAny_mono (law_call (n := 10) O (v := .ref sc) (Q := fun v ι => v = .bool true) S ?rm fun F env c f E ef => ?body) (fun v s' ⟨L', S', q⟩ => ⟨q, ?_, ?_, S'.gens⟩) fun ι ι x => x
  case rm => exact ⟨rfl, by decide, by decide⟩
  case body => exact law_all (n := 0) O E ef (fun L s S' => (hS L s S').typeIs) hS hI hl fun L' => rfl
  · have := S'.old
    rw [hh] at this
    exact this
  · rw [S'.os, hos]
theorem wsR : noRoadLSs { strict := !(importedModules pw.main.body).all cThrough.contains, foot := none, bare := (["vars", "dir", "locals"] : List Str).filter (readsOut pw pw.main.body) } pw.main.body = true := by kernel_rfl
theorem wsN : namesResolve pw = true := by kernel_rfl
theorem wsM : namesMeet pw pw.main.body (fun _ n => attrL n) = true := by kernel_rfl
theorem wsL (h : namesResolve pw = true) (h1 : noRoadLSs { strict := !(importedModules pw.main.body).all cThrough.contains, foot := none, bare := (["vars", "dir", "locals"] : List Str).filter (readsOut pw pw.main.body) } pw.main.body = true) (h2 : namesMeet pw pw.main.body (fun _ n => attrL n) = true) : looksOpen pw = true := by
  delta looksOpen
  show ((((_ && namesResolve pw) && _) && noRoadLSs _ pw.main.body) && namesMeet pw pw.main.body (fun _ n => attrL n)) = true
  rw [h, h1, h2]
  kernel_rfl
theorem wsP (h : looksOpen pw = true) : OpenRow.partSaid PySem.Challenge.rw_kl0480_01.row = true := by
  delta OpenRow.partSaid
  rw [show looksOpen PySem.Challenge.rw_kl0480_01.row.prog = true from h]
  kernel_rfl
theorem wsO (h : OpenRow.partSaid PySem.Challenge.rw_kl0480_01.row = true) : OpenRow.wellSaid PySem.Challenge.rw_kl0480_01.row = true := by
  delta OpenRow.wellSaid
  rw [h]
  kernel_rfl
theorem wsF : noRoadLSs { strict := true, foot := some PySem.Challenge.rw_kl0480_01.bound', writes := PySem.Challenge.rw_kl0480_01.writes, may := PySem.Challenge.rw_kl0480_01.may } PySem.Challenge.rw_kl0480_01.footing = true := by kernel_rfl
theorem wsAll : OpenLaw.wellSaid PySem.Challenge.rw_kl0480_01 = true := by
  have h := wsO (wsP (wsL wsN wsR wsM))
  have h2 := wsF
  revert h h2
  delta OpenLaw.wellSaid
  intro h h2
  rw [h, h2]
  kernel_rfl
end Mine.Internal
open PySem PySem.W PyProof.Rows
theorem PySem.Challenge.cw_kl0480_01_holds : PySem.Challenge.rw_kl0480_01.Holds := by
  refine PySem.W.holds_law Mine.Internal.wsAll fun said => ?_
  refine holds_open (q := Mine.Internal.qv) (loose := Mine.Internal.lo) (Xt := Mine.Internal.xt) (XP := XL Mine.Internal.qv []) (Yf := Mine.Internal.hk.obs) (Ya := Mine.Internal.hk.val) (YP := Mine.Internal.hk.says) (N := 2894) Mine.Internal.left Mine.Internal.hk.of Mine.Internal.hk.keeps (fun s e => xl_of s (Bool.and_eq_true_iff.mp e).1) XL.keeps (by rfl) (by rfl) (by rfl) (fun s e => recFacts_of (Bool.and_eq_true_iff.mp e).2) (by rfl) (by first | assumption | decide +kernel) (by decide +kernel) ⟨rfl, rfl, rfl, rfl, rfl, by decide +kernel⟩ ?hw ?hc
  case hw => w_witness2
  w_strict intro w s₀ s₁ mg mb G Y fa o pm cd doc dV kV ho hd' hcd hD hmg hg args vals as hpre hlay hrd hwl hlo
  have KX := Y.1
  have KT := Y.2
  have T := G.T
  clear hD ho hd' hcd
  wrow_args hpre hlay hrd hwl hlo
  rename Heap.IsList _ _ _ => hL
  rename IntsAre _ _ => hI
  rename ¬ (_ : Int) < _ => hq
  have hlen := Nat.le_of_not_lt fun h => hq (Int.ofNat_lt.mpr h)
  refine wpAny_mono (Mine.Internal.law_final w _ T KX KT hg hmg hL hI hlen) (fun v s' ⟨e, q1, q2, q3⟩ => ?_) fun ι ι x => x.elim
  subst e
  exact ⟨.inl ⟨_, .bool true, [], rfl, fun ι => rfl, .bool true, by wrow_post, fun ι => ⟨List.nodup_nil, fun ι h => nomatch h⟩⟩, q1, q2, .of_eq q3⟩
