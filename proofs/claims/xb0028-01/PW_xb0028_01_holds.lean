import PyProof.Rows.All
import Wide.All
import OpenK.AllK
import Wide.FinOn
import PySem.Challenge.RW_xb0028_01
set_option Elab.async false
set_option genInjectivity false
set_option linter.all false
set_option bootstrap.genMatcherCode false
set_option genSizeOf false
set_option genSizeOfSpec false
set_option maxHeartbeats 8000000
local macro_rules | `(tactic| omega) => `(tactic| first | decide | lia)

/- part HN -/
section
open PySem PySem.W PyProof.Rows PySem.Calls
set_option maxRecDepth 100000
namespace Mine
noncomputable abbrev pw : Program := PySem.Challenge.pw_xb0028_01
/-! the part of the heap behind the top that the walk knows -/
noncomputable def kS (x : String) (t : Nat) : Value := .str (Str.ofString x) t
noncomputable def kE (P : Params) (x : String) (t : Nat) (v : Value) : DictEntry := ⟨PyData.keyHash P (Str.ofString x), kS x t, v⟩
noncomputable def kB (i : Nat) : Option Stmt := pw.main.body[i]?
noncomputable def kM (i : Nat) : Option Stmt := match kB 4 with
  | some (.ClassDef _ _ _ b _ _ _ _ _ _ _) => b[i]?
  | _ => none
noncomputable def kF (q md : String) (mt cd : Nat) (st : Option Stmt) : Obj := match st with
  | some (.FunctionDef n ps b _ _ _ sc _ _ _) => ⟨.type "function", none, .func { docDef n ps b sc (kS md mt) (.ref cd) .none with qualname := Str.ofString q }, #[]⟩
  | _ => ⟨.none, none, .fields #[], #[]⟩
noncomputable def kC (n q : String) (t line argc : Nat) (v8 v11 v13 v14 v15 : Value) (u : Nat) : Obj :=
  ⟨.type "code", none, .fields #[kS n t, kS q (t + 1), kS "/claim/cut.py" (t + 2), .int line 0, .int argc 0, .int 0 0, .int 0 0, .int 3 0, v8, .bool true, .int 181 0, v11, .none, v13, v14, v15, .int u 0, .int line 0, kS "/claim/cut.py" (u + 1)], #[]⟩
noncomputable def KK (P : Params) : Frag := [
  (2, ⟨.none, none, .dict #[], #[]⟩),
  (3, ⟨.type "dict", none, .dict #[kE P "__name__" 165 (kS "law_xb0028_01" 496), kE P "__doc__" 166 (.none), kE P "__package__" 167 (.none), kE P "__loader__" 168 (.builtin "__main__.__loader__#opaque"), kE P "__spec__" 169 (.none), kE P "__annotations__" 170 (.ref 6), kE P "__builtins__" 171 (.ref 4), kE P "__file__" 173 (kS "/claim/cut.py" 172), kE P "__cached__" 174 (.none), kE P "ELLIPSIS_MARKER" 190 (kS "..." 189), kE P "_ellipsis_match" 202 (.ref 21), kE P "TupleComp" 246 (.ref 45), kE P "add_func_stats" 264 (.ref 56), kE P "add_callers" 275 (.ref 63), kE P "ENDMARKER" 279 (.int 0 278), kE P "LPAR" 281 (.int 7 280), kE P "RPAR" 283 (.int 8 282), kE P "LSQB" 285 (.int 9 284), kE P "RSQB" 287 (.int 10 286), kE P "COLON" 289 (.int 11 288), kE P "COMMA" 291 (.int 12 290), kE P "SEMI" 293 (.int 13 292), kE P "PLUS" 295 (.int 14 294), kE P "MINUS" 297 (.int 15 296), kE P "STAR" 299 (.int 16 298), kE P "SLASH" 301 (.int 17 300), kE P "VBAR" 303 (.int 18 302), kE P "AMPER" 305 (.int 19 304), kE P "LESS" 307 (.int 20 306), kE P "GREATER" 309 (.int 21 308), kE P "EQUAL" 311 (.int 22 310), kE P "DOT" 313 (.int 23 312), kE P "PERCENT" 315 (.int 24 314), kE P "LBRACE" 317 (.int 25 316), kE P "RBRACE" 319 (.int 26 318), kE P "EQEQUAL" 321 (.int 27 320), kE P "NOTEQUAL" 323 (.int 28 322), kE P "LESSEQUAL" 325 (.int 29 324), kE P "GREATEREQUAL" 327 (.int 30 326), kE P "TILDE" 329 (.int 31 328), kE P "CIRCUMFLEX" 331 (.int 32 330), kE P "LEFTSHIFT" 333 (.int 33 332), kE P "RIGHTSHIFT" 335 (.int 34 334), kE P "DOUBLESTAR" 337 (.int 35 336), kE P "PLUSEQUAL" 339 (.int 36 338), kE P "MINEQUAL" 341 (.int 37 340), kE P "STAREQUAL" 343 (.int 38 342), kE P "SLASHEQUAL" 345 (.int 39 344), kE P "PERCENTEQUAL" 347 (.int 40 346), kE P "AMPEREQUAL" 349 (.int 41 348), kE P "VBAREQUAL" 351 (.int 42 350), kE P "CIRCUMFLEXEQUAL" 353 (.int 43 352), kE P "LEFTSHIFTEQUAL" 355 (.int 44 354), kE P "RIGHTSHIFTEQUAL" 357 (.int 45 356), kE P "DOUBLESTAREQUAL" 359 (.int 46 358), kE P "DOUBLESLASH" 361 (.int 47 360), kE P "DOUBLESLASHEQUAL" 363 (.int 48 362), kE P "AT" 365 (.int 49 364), kE P "ATEQUAL" 367 (.int 50 366), kE P "RARROW" 369 (.int 51 368), kE P "ELLIPSIS" 371 (.int 52 370), kE P "COLONEQUAL" 373 (.int 53 372), kE P "EXCLAMATION" 375 (.int 54 374), kE P "NT_OFFSET" 377 (.int 256 376), kE P "EXACT_TOKEN_TYPES" 474 (.ref 64), kE P "ISTERMINAL" 481 (.ref 73), kE P "ISNONTERMINAL" 488 (.ref 80), kE P "ISEOF" 495 (.ref 87), kE P "_law_world" 520 (.ref 94), kE P "_law_times" 526 (.ref 99), kE P "_law_less" 534 (.ref 106), kE P "_law_degree" 540 (.ref 111), kE P "_law_chain" 553 (.ref 118), kE P "_law_at" 559 (.ref 123), kE P "_law_signs" 565 (.ref 128), kE P "_law_changes" 571 (.ref 133), kE P "_law_fits" 577 (.ref 138), kE P "law" 583 (.ref 143)] 78, #[]⟩),
  (20, kC "_ellipsis_match" "_ellipsis_match" 191 3 2 (.ref 15) (.ref 16) (.ref 17) (.ref 18) (.ref 19) 200),
  (21, kF "_ellipsis_match" "cpy313.doctest" 187 20 (kB 2)),
  (34, kC "__init__" "TupleComp.__init__" 217 34 2 (.ref 29) (.ref 30) (.ref 31) (.ref 32) (.ref 33) 222),
  (35, kF "TupleComp.__init__" "cpy313.pstats" 203 34 (kM 0)),
  (41, kC "compare" "TupleComp.compare" 225 37 3 (.ref 36) (.ref 37) (.ref 38) (.ref 39) (.ref 40) 235),
  (42, kF "TupleComp.compare" "cpy313.pstats" 203 41 (kM 1)),
  (44, ⟨.type "dict", none, .dict #[kE P "__module__" 212 (kS "cpy313.pstats" 203), kE P "__firstlineno__" 216 (.int 32 215), kE P "__init__" 224 (.ref 35), kE P "compare" 237 (.ref 42), kE P "__static_attributes__" 239 (.ref 43), kE P "__dict__" 241 (.ref 46), kE P "__weakref__" 243 (.ref 47), kE P "__doc__" 244 (.none)] 4, #[]⟩),
  (45, ⟨.type "type", none, .cls { name := Str.ofString "TupleComp", bases := [.type "object"], mro := [.ref 45, .type "object"], ns := 44, qualname := Str.ofString "TupleComp" }, #[none, none, some (kS "TupleComp" 205), some (kS "TupleComp" 213), some (.builtin "object.__new__"), some (.bool true)]⟩),
  (46, ⟨.type "getset_descriptor", none, .fields #[kS "__dict__" 240, .ref 45, .builtin "function.__dict__", .builtin "function.__dict__#set"], #[]⟩),
  (47, ⟨.type "getset_descriptor", none, .fields #[kS "__weakref__" 242, .ref 45, .builtin "ExceptionGroup.__weakref__", .none], #[]⟩),
  (55, kC "add_func_stats" "add_func_stats" 247 46 2 (.ref 50) (.ref 51) (.ref 52) (.ref 53) (.ref 54) 262),
  (56, kF "add_func_stats" "cpy313.pstats" 203 55 (kB 5)),
  (62, kC "add_callers" "add_callers" 265 50 2 (.ref 57) (.ref 58) (.ref 59) (.ref 60) (.ref 61) 273),
  (63, kF "add_callers" "cpy313.pstats" 203 62 (kB 6)),
  (64, ⟨.type "dict", none, .dict #[kE P "!" 378 (.int 54 374), kE P "!=" 380 (.int 28 322), kE P "%" 382 (.int 24 314), kE P "%=" 384 (.int 40 346), kE P "&" 386 (.int 19 304), kE P "&=" 388 (.int 41 348), kE P "(" 390 (.int 7 280), kE P ")" 392 (.int 8 282), kE P "*" 394 (.int 16 298), kE P "**" 396 (.int 35 336), kE P "**=" 398 (.int 46 358), kE P "*=" 400 (.int 38 342), kE P "+" 402 (.int 14 294), kE P "+=" 404 (.int 36 338), kE P "," 406 (.int 12 290), kE P "-" 408 (.int 15 296), kE P "-=" 410 (.int 37 340), kE P "->" 412 (.int 51 368), kE P "." 414 (.int 23 312), kE P "..." 416 (.int 52 370), kE P "/" 418 (.int 17 300), kE P "//" 420 (.int 47 360), kE P "//=" 422 (.int 48 362), kE P "/=" 424 (.int 39 344), kE P ":" 426 (.int 11 288), kE P ":=" 428 (.int 53 372), kE P ";" 430 (.int 13 292), kE P "<" 432 (.int 20 306), kE P "<<" 434 (.int 33 332), kE P "<<=" 436 (.int 44 354), kE P "<=" 438 (.int 29 324), kE P "=" 440 (.int 22 310), kE P "==" 442 (.int 27 320), kE P ">" 444 (.int 21 308), kE P ">=" 446 (.int 30 326), kE P ">>" 447 (.int 34 334), kE P ">>=" 448 (.int 45 356), kE P "@" 449 (.int 49 364), kE P "@=" 450 (.int 50 366), kE P "[" 451 (.int 9 284), kE P "]" 452 (.int 10 286), kE P "^" 453 (.int 32 330), kE P "^=" 454 (.int 43 352), kE P "{" 455 (.int 25 316), kE P "|" 456 (.int 18 302), kE P "|=" 457 (.int 42 350), kE P "}" 458 (.int 26 318), kE P "~" 459 (.int 31 328)] 48, #[]⟩),
  (72, kC "ISTERMINAL" "ISTERMINAL" 475 115 1 (.ref 67) (.ref 68) (.ref 69) (.ref 70) (.ref 71) 479),
  (73, kF "ISTERMINAL" "cpy313.token" 276 72 (kB 59)),
  (79, kC "ISNONTERMINAL" "ISNONTERMINAL" 482 117 1 (.ref 74) (.ref 75) (.ref 76) (.ref 77) (.ref 78) 486),
  (80, kF "ISNONTERMINAL" "cpy313.token" 276 79 (kB 60)),
  (86, kC "ISEOF" "ISEOF" 489 119 1 (.ref 81) (.ref 82) (.ref 83) (.ref 84) (.ref 85) 493),
  (87, kF "ISEOF" "cpy313.token" 276 86 (kB 61)),
  (93, kC "_law_world" "_law_world" 498 122 1 (.ref 88) (.ref 89) (.ref 90) (.ref 91) (.ref 92) 518),
  (94, kF "_law_world" "law_xb0028_01" 496 93 (kB 63)),
  (98, kC "_law_times" "_law_times" 521 132 3 (.ref 95) (.ref 96) (.none) (.none) (.ref 97) 524),
  (99, kF "_law_times" "law_xb0028_01" 496 98 (kB 64)),
  (105, kC "_law_less" "_law_less" 527 139 2 (.ref 100) (.ref 101) (.ref 102) (.ref 103) (.ref 104) 532),
  (106, kF "_law_less" "law_xb0028_01" 496 105 (kB 65)),
  (110, kC "_law_degree" "_law_degree" 535 141 1 (.ref 107) (.ref 108) (.none) (.none) (.ref 109) 538),
  (111, kF "_law_degree" "law_xb0028_01" 496 110 (kB 66)),
  (117, kC "_law_chain" "_law_chain" 541 143 1 (.ref 112) (.ref 113) (.ref 114) (.ref 115) (.ref 116) 551),
  (118, kF "_law_chain" "law_xb0028_01" 496 117 (kB 67)),
  (122, kC "_law_at" "_law_at" 554 154 2 (.ref 119) (.ref 120) (.none) (.none) (.ref 121) 557),
  (123, kF "_law_at" "law_xb0028_01" 496 122 (kB 68)),
  (127, kC "_law_signs" "_law_signs" 560 156 1 (.ref 124) (.ref 125) (.none) (.none) (.ref 126) 563),
  (128, kF "_law_signs" "law_xb0028_01" 496 127 (kB 69)),
  (132, kC "_law_changes" "_law_changes" 566 158 1 (.ref 129) (.ref 130) (.none) (.none) (.ref 131) 569),
  (133, kF "_law_changes" "law_xb0028_01" 496 132 (kB 70)),
  (137, kC "_law_fits" "_law_fits" 572 161 1 (.ref 134) (.ref 135) (.none) (.none) (.ref 136) 575),
  (138, kF "_law_fits" "law_xb0028_01" 496 137 (kB 71)),
  (142, kC "law" "law" 578 168 1 (.ref 139) (.ref 140) (.none) (.none) (.ref 141) 581),
  (143, kF "law" "law_xb0028_01" 496 142 (kB 72))
]
noncomputable def vw : Program := view pw [6, 72]
noncomputable abbrev lawN : Str := Str.ofString "law"
noncomputable def loosN : List Str := (pw.main.scope.names.map (·.1)).filter fun x => !(x == Str.ofString "law" || x == Str.ofString "add_callers")
noncomputable abbrev kHk : Hook := kHook KK [2, 3, 20, 21, 34, 35, 41, 42, 44, 45, 46, 47, 55, 56, 62, 63, 64, 72, 73, 79, 80, 86, 87, 93, 94, 98, 99, 105, 106, 110, 111, 117, 118, 122, 123, 127, 128, 132, 133, 137, 138, 142, 143] (fun _ => by kernel_rfl)
noncomputable abbrev lawXt (s : Shared) : Bool := xlAt vw [] s && recOk [] s
noncomputable abbrev LeftAt (w : World) : Prop := (openEnds treeTable pw w 4562).map (fun s => (openSeen vw loosN (importedModules pw.main.body) lawXt true s, Hook.obs kHk s)) = some (openGood vw loosN, Hook.val kHk w)
theorem leftF : ∀ w : World, LeftAt (w.withFollow "special-get-raises" false) := fun w => by
  unfold LeftAt openEnds fencedOpening topFrom openGood expectedOf pinGoodD plainGoodE plainGoodD wideGood clsGoodW bltViewBooted staticsOk namesBound laidKept
  rw [PySem.W.Fast.te14364793385576792824, PySem.W.Fast.te10274390034422433532, PySem.W.Fast.te1435165496053646825, PySem.W.Fast.te14289696077712309145, PySem.W.Fast.te14082659384304107361, PySem.W.Fast.te4187177175401517315]
  simp only [PySem.W.Fast.te3247288618530077131, PySem.W.Fast.te821141287760084731, PySem.W.Fast.te3399658132070893891, PySem.W.Fast.te210736558901404530, PySem.W.Fast.te4354255287344443571, PySem.W.Fast.te694669760492028198, PySem.W.Fast.te1571739515156823405, PySem.W.Fast.te15521713216982973386, PySem.W.Fast.te5923862056798008813, PySem.W.Fast.te18344453789297297638, PySem.W.Fast.te8920871248978507458, PySem.W.Fast.te12749700546528644094]
  kernel_rfl
theorem leftT : ∀ w : World, LeftAt (w.withFollow "special-get-raises" true) := fun w => by
  unfold LeftAt openEnds fencedOpening topFrom openGood expectedOf pinGoodD plainGoodE plainGoodD wideGood clsGoodW bltViewBooted staticsOk namesBound laidKept
  rw [PySem.W.Fast.te14364793385576792824, PySem.W.Fast.te10274390034422433532, PySem.W.Fast.te1435165496053646825, PySem.W.Fast.te14289696077712309145, PySem.W.Fast.te14082659384304107361, PySem.W.Fast.te4187177175401517315]
  simp only [PySem.W.Fast.te3247288618530077131, PySem.W.Fast.te821141287760084731, PySem.W.Fast.te3399658132070893891, PySem.W.Fast.te210736558901404530, PySem.W.Fast.te4354255287344443571, PySem.W.Fast.te694669760492028198, PySem.W.Fast.te1571739515156823405, PySem.W.Fast.te15521713216982973386, PySem.W.Fast.te5923862056798008813, PySem.W.Fast.te18344453789297297638, PySem.W.Fast.te8920871248978507458, PySem.W.Fast.te12749700546528644094]
  kernel_rfl
theorem left : LeftO pw vw loosN lawXt (Hook.obs kHk) (Hook.val kHk) 4562 := byRow2 "special-get-raises" leftF leftT
theorem said : PySem.Challenge.rw_xb0028_01.wellSaid = true := (congrFun PySem.W.Fast.te9446332074065402090 _).trans (by kernel_rfl)
theorem lawSome : (defOf vw lawN).isSome = true := by kernel_rfl
noncomputable def lawD : DefRec × List (Str × PySem.Expr) := (defOf vw lawN).get lawSome
theorem lawD_eq : defOf vw lawN = some lawD := by unfold lawD; simp
theorem top (walk : WalkO vw loosN (XL vw []) (Hook.says kHk) PySem.Challenge.rw_xb0028_01.row.toRowW lawD.1 lawD.2 fun f vs => PySem.call f vs) : PySem.Challenge.rw_xb0028_01.Holds :=
  holds_law said fun said' => by
    refine holds_open (q := vw) (loose := loosN) (Xt := lawXt) (XP := XL vw []) (Yf := Hook.obs kHk) (Ya := Hook.val kHk) (YP := Hook.says kHk) (N := 4562) left (Hook.of kHk) (Hook.keeps kHk) (fun s e => xl_of s (Bool.and_eq_true_iff.mp e).1) XL.keeps lawD_eq ?_ ?_ (fun s e => recFacts_of (Bool.and_eq_true_iff.mp e).2) rfl said' ?_ ⟨rfl, rfl, rfl, rfl, rfl, ?_⟩ ?_ walk
    · kernel_rfl
    · kernel_rfl
    · kernel_rfl
    · decide +kernel
    · exact ⟨[.list (([] : List Int).map .int)], by kernel_rfl, by kernel_rfl⟩
end Mine
end

/- part E0 -/
section
open PySem PySem.W PyProof.Rows PySem.Calls PySem.Spec
namespace Mine
theorem bC {p : Prop} (h : ¬p → False) : p := Classical.byContradiction h
theorem cons_of {α : Type _} {cs : List α} {n : Nat} (h : cs.length = n + 1) : ∃ a t, cs = a :: t ∧ t.length = n := by
  cases cs with
  | nil => cases h
  | cons a t => exact ⟨a, t, rfl, Nat.succ.inj h⟩
theorem isome {α : Type _} {p : Prop} [Decidable p] {a : Option α} {q : α} (h : (if p then a else .none) = some q) : p ∧ a = some q :=
  if w : p then ⟨w, (if_pos w).symm.trans h⟩ else nomatch (if_neg w).symm.trans h
theorem bsomeP {α β γ : Type _} {x : Option (α × γ)} {f : α × γ → Option β} {y : β} (h : x.bind f = some y) : ∃ a c, x = some (a, c) ∧ f (a, c) = some y :=
  let ⟨p, e, k⟩ := Option.bind_eq_some_iff.mp h
  ⟨p.1, p.2, e, k⟩
theorem bsome {α β : Type _} {x : Option α} {f : α → Option β} {y : β} (h : x.bind f = some y) : ∃ a, x = some a ∧ f a = some y := Option.bind_eq_some_iff.mp h
/- pure data -/
inductive D where
  | none
  | bool (b : Bool)
  | int (i : Int)
  | str (x : Str)
  | tup (l : List D)
  | list (l : List D)
  | dict (l : List (Int × D))
  | inst (C : Addr) (d : D)
  | glob (a : Addr)
  | typ (n : String)
noncomputable def D.isObj : D → Bool
  | .list _ | .dict _ => true
  | _ => false
/- a part of a heap that stays -/
noncomputable abbrev PH := Addr → Option Obj
noncomputable def PH.le (G G' : PH) : Prop := ∀ a o, G a = some o → G' a = some o
theorem PH.le.refl (G : PH) : G.le G := fun _ _ e => e
theorem PH.le.trans {G G' G'' : PH} (x : G.le G') (y : G'.le G'') : G.le G'' := fun a o e => y a o (x a o e)
noncomputable def PH.put (G : PH) (a : Addr) (o : Obj) : PH := fun b => if b = a then some o else G b
theorem PH.put_self (G : PH) (a : Addr) (o : Obj) : G.put a o a = some o := by simp [PH.put]
theorem PH.le_put {G : PH} {a : Addr} {o : Obj} (h : G a = .none) : G.le (G.put a o) := fun b x e => by
  by_cases q : b = a
  · subst q; rw [h] at e; cases e
  · simp [PH.put, q, e]
/- entries of a dict keyed by ints -/
noncomputable def IntEntries : List DictEntry → List (Int × Value) → Prop
  | [], [] => True
  | e :: es, (k, v) :: kvs => (∃ t, e.key = .int k t) ∧ e.hash = hashInt k ∧ e.val = v ∧ IntEntries es kvs
  | _, _ => False
noncomputable def IntDict (o : Obj) (kvs : List (Int × Value)) : Prop := ∃ es ep, o.ExactDict ∧ o.data = .dict es ep ∧ IntEntries es.toList kvs ∧ (kvs.map (·.1)).Nodup
noncomputable abbrev tupO (vs : Array Value) (n : Nat) : Obj := { cls := .type "tuple", dict := none, data := .seq vs n, slots := #[] }
noncomputable abbrev lstO (vs : Array Value) (n : Nat) : Obj := { cls := .type "list", dict := none, data := .seq vs n, slots := #[] }
mutual
noncomputable def Rep (G : PH) : D → Value → Prop
  | .none, v => v = .none
  | .bool b, v => v = .bool b
  | .int i, v => ∃ t, v = .int i t
  | .str x, v => ∃ t, v = .str x t
  | .tup l, v => ∃ a vs n, v = .ref a ∧ G a = some (tupO vs n) ∧ RepL G l vs.toList
  | .list l, v => ∃ a vs n, v = .ref a ∧ G a = some (lstO vs n) ∧ RepL G l vs.toList
  | .dict l, v => ∃ a o kvs, v = .ref a ∧ G a = some o ∧ IntDict o kvs ∧ (a == sysModules) = false ∧ RepM G l kvs
  | .inst C d, v => ∃ a da o od t hsh x n, v = .ref a ∧ G a = some o ∧ G da = some od ∧ o = instObj C da ∧ od = dictOf [⟨hsh, .str (Str.ofString "comp_select_list") t, x⟩] n ∧ Rep G d x
  | .glob a, v => v = .ref a
  | .typ n, v => v = .type n
noncomputable def RepL (G : PH) : List D → List Value → Prop
  | [], vs => vs = []
  | d :: ds, vs => ∃ v r, vs = v :: r ∧ Rep G d v ∧ RepL G ds r
noncomputable def RepM (G : PH) : List (Int × D) → List (Int × Value) → Prop
  | [], kvs => kvs = []
  | (k, d) :: ds, kvs => ∃ v r, kvs = (k, v) :: r ∧ Rep G d v ∧ RepM G ds r
end
mutual
theorem Rep.mono {G G' : PH} (h : G.le G') : ∀ {d : D} {v : Value}, Rep G d v → Rep G' d v
  | .none, _, x => by simpa only [Rep] using x
  | .bool _, _, x => by simpa only [Rep] using x
  | .int _, _, x => by simpa only [Rep] using x
  | .str _, _, x => by simpa only [Rep] using x
  | .tup l, _, x => by
    simp only [Rep] at x ⊢
    refine bC fun z_ => ?_
    (obtain ⟨a, vs, n, e, g, r⟩ := x) <;> refine z_ ?_ <;> clear z_
    exact ⟨a, vs, n, e, h _ _ g, RepL.mono h r⟩
  | .list l, _, x => by
    simp only [Rep] at x ⊢
    refine bC fun z_ => ?_
    (obtain ⟨a, vs, n, e, g, r⟩ := x) <;> refine z_ ?_ <;> clear z_
    exact ⟨a, vs, n, e, h _ _ g, RepL.mono h r⟩
  | .dict l, _, x => by
    simp only [Rep] at x ⊢
    refine bC fun z_ => ?_
    (obtain ⟨a, o, kvs, e, g, i, z, r⟩ := x) <;> refine z_ ?_ <;> clear z_
    exact ⟨a, o, kvs, e, h _ _ g, i, z, RepM.mono h r⟩
  | .inst C d, _, x => by
    simp only [Rep] at x ⊢
    refine bC fun z_ => ?_
    (obtain ⟨a, da, o, od, t, hsh, y, n, e, g, g', q, q', r⟩ := x) <;> refine z_ ?_ <;> clear z_
    exact ⟨a, da, o, od, t, hsh, y, n, e, h _ _ g, h _ _ g', q, q', Rep.mono h r⟩
  | .glob _, _, x => by simpa only [Rep] using x
  | .typ _, _, x => by simpa only [Rep] using x
theorem RepL.mono {G G' : PH} (h : G.le G') : ∀ {l : List D} {vs : List Value}, RepL G l vs → RepL G' l vs
  | [], _, x => by simpa only [RepL] using x
  | d :: ds, _, x => by
    simp only [RepL] at x ⊢
    refine bC fun z_ => ?_
    (obtain ⟨v, r, e, a, b⟩ := x) <;> refine z_ ?_ <;> clear z_
    exact ⟨v, r, e, Rep.mono h a, RepL.mono h b⟩
theorem RepM.mono {G G' : PH} (h : G.le G') : ∀ {l : List (Int × D)} {vs : List (Int × Value)}, RepM G l vs → RepM G' l vs
  | [], _, x => by simpa only [RepM] using x
  | (k, d) :: ds, _, x => by
    simp only [RepM] at x ⊢
    refine bC fun z_ => ?_
    (obtain ⟨v, r, e, a, b⟩ := x) <;> refine z_ ?_ <;> clear z_
    exact ⟨v, r, e, Rep.mono h a, RepM.mono h b⟩
end
theorem Rep.int_iff {G : PH} {i : Int} {v : Value} (h : Rep G (.int i) v) : ∃ t, v = .int i t := h
theorem Rep.bool_iff {G : PH} {i : Bool} {v : Value} (h : Rep G (.bool i) v) : v = .bool i := h
theorem Rep.str_iff {G : PH} {i : Str} {v : Value} (h : Rep G (.str i) v) : ∃ t, v = .str i t := h
theorem Rep.tup_iff {G : PH} {l : List D} {v : Value} (h : Rep G (.tup l) v) : ∃ a vs n, v = .ref a ∧ G a = some (tupO vs n) ∧ RepL G l vs.toList := h
theorem Rep.list_iff {G : PH} {l : List D} {v : Value} (h : Rep G (.list l) v) : ∃ a vs n, v = .ref a ∧ G a = some (lstO vs n) ∧ RepL G l vs.toList := h
theorem Rep.dict_iff {G : PH} {l : List (Int × D)} {v : Value} (h : Rep G (.dict l) v) : ∃ a o kvs, v = .ref a ∧ G a = some o ∧ IntDict o kvs ∧ (a == sysModules) = false ∧ RepM G l kvs := h
theorem RepL.nil {G : PH} : RepL G [] [] := by simp only [RepL]
theorem RepL.cons {G : PH} {d : D} {v : Value} {ds : List D} {vs : List Value} (a : Rep G d v) (b : RepL G ds vs) : RepL G (d :: ds) (v :: vs) := by
  simp only [RepL]; exact ⟨v, vs, rfl, a, b⟩
theorem RepL.length {G : PH} : ∀ {l : List D} {vs : List Value}, RepL G l vs → vs.length = l.length
  | [], _, x => by simp only [RepL] at x; rw [x]; rfl
  | d :: ds, _, x => by
    simp only [RepL] at x
    refine bC fun z_ => ?_
    (obtain ⟨v, r, e, _, b⟩ := x) <;> refine z_ ?_ <;> clear z_
    rw [e, List.length_cons, List.length_cons, RepL.length b]
theorem RepL.append {G : PH} : ∀ {l l' : List D} {vs vs' : List Value}, RepL G l vs → RepL G l' vs' → RepL G (l ++ l') (vs ++ vs')
  | [], _, _, _, x, y => by simp only [RepL] at x; rw [x]; exact y
  | d :: ds, _, _, _, x, y => by
    simp only [RepL] at x
    refine bC fun z_ => ?_
    (obtain ⟨v, r, e, a, b⟩ := x) <;> refine z_ ?_ <;> clear z_
    rw [e]
    exact RepL.cons a (RepL.append b y)
theorem RepL.get {G : PH} : ∀ {l : List D} {vs : List Value}, RepL G l vs → ∀ {i : Nat} {d : D}, l[i]? = some d → ∃ v, vs[i]? = some v ∧ Rep G d v
  | [], _, _, i, d, e => by simp at e
  | d :: ds, _, x, i, d', e => by
    simp only [RepL] at x
    refine bC fun z_ => ?_
    (obtain ⟨v, r, rfl, a, b⟩ := x) <;> refine z_ ?_ <;> clear z_
    cases i with
    | zero => simp only [List.getElem?_cons_zero, Option.some.injEq] at e; subst e; exact ⟨v, rfl, a⟩
    | succ i => simp only [List.getElem?_cons_succ] at e ⊢; exact RepL.get b e
/- the one record of the text that a run of it changes: the places of one code -/
noncomputable def cdP : Addr := 62
noncomputable def tabP : Addr := 58
noncomputable def gePos : Pos := ⟨57, 42, 57, 92⟩
noncomputable def TabOk (h : Heap) : Prop := ∃ ps, h.IsCode cdP tabP ps ∧ h.TableAt cdP tabP ps ∧ (ps = #[] ∨ ∃ c, codeAmong gePos ps.toList = some c)
theorem TabOk.keep {h h' : Heap} (t : TabOk h) (k : ∀ b o, b = cdP ∨ b = tabP → h.get? b = some o → h'.get? b = some o) : TabOk h' := by
  refine bC fun z_ => ?_
  (obtain ⟨ps, ⟨o, vs, file, tf, flags, tg, inF, text, tt, op, a, r1, r2, r3, r4, r5, r6, b, r⟩, ⟨⟨o', vs', a', r'⟩, t'⟩, z⟩ := t) <;> refine z_ ?_ <;> clear z_
  exact ⟨ps, ⟨o, vs, file, tf, flags, tg, inF, text, tt, op, k _ _ (.inl rfl) a, r1, r2, r3, r4, r5, r6, k _ _ (.inr rfl) b, r⟩, ⟨⟨o', vs', k _ _ (.inl rfl) a', r'⟩, k _ _ (.inr rfl) t'⟩, z⟩
theorem TabOk.live {h : Heap} (t : TabOk h) : ∃ ps, h.get? tabP = some { cls := .none, data := .fields ps } := by
  refine bC fun z_ => ?_
  (obtain ⟨ps, _, ⟨_, t'⟩, _⟩ := t) <;> refine z_ ?_ <;> clear z_
  exact ⟨ps, t'⟩
theorem TabOk.alive {h : Heap} (t : TabOk h) : (h.get? tabP).isSome = true := let ⟨_, e⟩ := t.live; by rw [e]; rfl
theorem TabOk.code {h : Heap} (t : TabOk h) : (h.get? cdP).isSome = true := by
  refine bC fun z_ => ?_
  (obtain ⟨ps, ⟨o, vs, file, tf, flags, tg, inF, text, tt, op, a, _⟩, _⟩ := t) <;> refine z_ ?_ <;> clear z_
  rw [a]; rfl
theorem TabOk.np {h : Heap} (t : TabOk h) {b : Addr} (e : h.get? b = none) : b ≠ tabP := fun q => by
  have := t.alive; rw [← q, e] at this; cases this
theorem TabOk.np_of {h : Heap} (t : TabOk h) {b : Addr} {o : Obj} (e : h.get? b = some o) (hd : ∀ vs, o.data ≠ .fields vs) : b ≠ tabP := fun q => by
  obtain ⟨ps, e'⟩ := t.live
  rw [← q, e] at e'; cases e'; exact hd ps rfl
theorem TabOk.np_cls {h : Heap} (t : TabOk h) {b : Addr} {o : Obj} (e : h.get? b = some o) (hd : o.cls ≠ .none) : b ≠ tabP := fun q => by
  obtain ⟨ps, e'⟩ := t.live
  rw [← q, e] at e'; cases e'; exact hd rfl
theorem TabOk.np_ns {h : Heap} (t : TabOk h) {b : Addr} {m : Str → Option Value} (e : h.Ns b m) : b ≠ tabP := by
  refine bC fun z_ => ?_
  (obtain ⟨o, es, ep, ho, hd, _⟩ := e) <;> refine z_ ?_ <;> clear z_
  exact t.np_of ho fun vs q => by rw [hd] at q; cases q
theorem TabOk.np_cell {h : Heap} (t : TabOk h) {b : Addr} {v : Option Value} (e : h.IsCell b v) : b ≠ tabP := by
  refine bC fun z_ => ?_
  (obtain ⟨o, ho, hd⟩ := e) <;> refine z_ ?_ <;> clear z_
  exact t.np_of ho fun vs q => by rw [hd] at q; cases q
/- all objects stay, but the one record -/
structure Kp (h h' : Heap) : Prop where
  kp : ∀ b o, b ≠ tabP → h.get? b = some o → h'.get? b = some o
  lv : (h.get? tabP).isSome = true → (h'.get? tabP).isSome = true
  tab : TabOk h → TabOk h'
theorem Kp.of {h h' : Heap} (k : ∀ b o, h.get? b = some o → h'.get? b = some o) : Kp h h' :=
  ⟨fun b o _ e => k b o e, fun x => by obtain ⟨o, ho⟩ := Option.isSome_iff_exists.mp x; rw [k _ _ ho]; rfl, fun t => t.keep fun b o _ e => k b o e⟩
theorem Kp.refl (h : Heap) : Kp h h := .of fun _ _ e => e
theorem Kp.trans {h h' h'' : Heap} (x : Kp h h') (y : Kp h' h'') : Kp h h'' := ⟨fun b o n e => y.kp b o n (x.kp b o n e), fun q => y.lv (x.lv q), fun t => y.tab (x.tab t)⟩
theorem Kp.live {h h' : Heap} (x : Kp h h') {b : Addr} (e : (h.get? b).isSome = true) : (h'.get? b).isSome = true := by
  by_cases q : b = tabP
  · subst q; exact x.lv e
  · obtain ⟨o, ho⟩ := Option.isSome_iff_exists.mp e
    rw [x.kp _ _ q ho]; rfl
theorem Kp.dead {h h' : Heap} (x : Kp h h') {b : Addr} (e : h'.get? b = none) : h.get? b = none := by
  cases q : h.get? b with
  | none => rfl
  | some o => have := x.live (b := b) (by rw [q]; rfl); rw [e] at this; cases this
theorem Kp.step {h₀ h h' : Heap} (k : Kp h₀ h) (old : ∀ b o, (h₀.get? b).isSome = true → h.get? b = some o → h'.get? b = some o) : Kp h₀ h' where
  kp := fun b o n e => old b o (by rw [e]; rfl) (k.kp b o n e)
  lv := fun e => by
    obtain ⟨o, ho⟩ := Option.isSome_iff_exists.mp (k.lv e)
    rw [old _ _ e ho]; rfl
  tab := fun t => (k.tab t).keep fun b o hb e => by
    rcases hb with rfl | rfl
    · exact old _ o t.code e
    · exact old _ o t.alive e
/- how an expression's evaluation leaves things -/
structure ExtE (s s' : Shared) (G G' : PH) : Prop where
  keep : Kp s.heap s'.heap
  le : G.le G'
  sub : ∀ a o, G' a = some o → s'.heap.get? a = some o
  old : ∀ a, (s.heap.get? a).isSome = true → G' a = G a
  os : s'.os = s.os
  gens : AllBare s.gens → AllBare s'.gens
theorem ExtE.refl {s : Shared} {G : PH} (h : ∀ a o, G a = some o → s.heap.get? a = some o) : ExtE s s G G :=
  ⟨.refl _, PH.le.refl _, h, fun _ _ => rfl, rfl, id⟩
theorem ExtE.trans {s s' s'' : Shared} {G G' G'' : PH} (x : ExtE s s' G G') (y : ExtE s' s'' G' G'') : ExtE s s'' G G'' :=
  ⟨x.keep.trans y.keep, x.le.trans y.le, y.sub, fun a h => by
    rw [y.old a (x.keep.live h), x.old a h], y.os.trans x.os, fun g => y.gens (x.gens g)⟩
/- a tree that ends with a value that stands for d -/
noncomputable def OkV (prog : Program) (w : World) (A : Around) (t : Sem Value) (s : Shared) (G : PH) (d : D) : Prop :=
  wpAny (model prog w) A t (fun v s' => ∃ G', ExtE s s' G G' ∧ Rep G' d v) (fun _ _ => False) s
noncomputable def OkVs (prog : Program) (w : World) (A : Around) (t : Sem (List Value)) (s : Shared) (G : PH) (ds : List D) : Prop :=
  wpAny (model prog w) A t (fun vs s' => ∃ G', ExtE s s' G G' ∧ RepL G' ds vs) (fun _ _ => False) s
noncomputable def OkB (prog : Program) (w : World) (A : Around) (t : Sem Bool) (s : Shared) (G : PH) (b : Bool) : Prop :=
  wpAny (model prog w) A t (fun v s' => v = b ∧ ∃ G', ExtE s s' G G') (fun _ _ => False) s
section
variable {prog : Program} {w : World} {A : Around} {s : Shared} {G : PH}
theorem OkV.bind {α : Type} {t : Sem Value} {f : Value → Sem α} {d : D} {Q : α → Shared → Prop} (h : OkV prog w A t s G d)
    (k : ∀ v s' G', ExtE s s' G G' → Rep G' d v → wpAny (model prog w) A (f v) Q (fun _ _ => False) s') : wpAny (model prog w) A (t >>= f) Q (fun _ _ => False) s :=
  wpAny_bind (wpAny_mono h (fun v s' ⟨G', x, r⟩ => k v s' G' x r) fun _ _ q => q)
theorem OkV.use {t : Sem Value} {d : D} {Q : Value → Shared → Prop} {E : Value → Shared → Prop} (h : OkV prog w A t s G d)
    (k : ∀ v s' G', ExtE s s' G G' → Rep G' d v → Q v s') : wpAny (model prog w) A t Q E s :=
  wpAny_mono h (fun v s' ⟨G', x, r⟩ => k v s' G' x r) fun _ _ q => q.elim
theorem OkV.pre {t : Sem Value} {d : D} {s₀ : Shared} {G₀ : PH} (x : ExtE s₀ s G₀ G) (h : OkV prog w A t s G d) :
    wpAny (model prog w) A t (fun v s' => ∃ G', ExtE s₀ s' G₀ G' ∧ Rep G' d v) (fun _ _ => False) s :=
  wpAny_mono h (fun v s' ⟨G', y, r⟩ => ⟨G', x.trans y, r⟩) fun _ _ q => q
/- a plain value back, nothing made -/
theorem OkV.here {v : Value} {d : D} (hG : ∀ a o, G a = some o → s.heap.get? a = some o) (r : Rep G d v) {tk : Nat} : ∃ G', ExtE s { s with toks := tk } G G' ∧ Rep G' d v :=
  ⟨G, ⟨.refl _, PH.le.refl _, hG, fun _ _ => rfl, rfl, id⟩, r⟩
/- one object made and kept -/
theorem ExtE.push {o : Obj} (hG : ∀ a o, G a = some o → s.heap.get? a = some o) (hf : o.isFreed = false) {tk : Nat} :
    ExtE s { s with heap := s.heap.push o, toks := tk } G (G.put s.heap.objs.size o) := by
  have hn : G s.heap.objs.size = .none := by
    cases q : G s.heap.objs.size with
    | none => rfl
    | some o' => exact absurd (Heap.lt_size (hG _ _ q)) (Nat.lt_irrefl _)
  refine ⟨.of fun b o e => Heap.get?_push_of_some _ e, PH.le_put hn, fun a o' e => ?_, fun a h => ?_, rfl, id⟩
  · by_cases q : a = s.heap.objs.size
    · subst q; rw [PH.put_self] at e; cases e; exact Heap.get?_push_size _ hf
    · simp only [PH.put, q, if_false] at e; exact Heap.get?_push_of_some _ (hG _ _ e)
  · have : a ≠ s.heap.objs.size := fun q => by
      obtain ⟨o, ho⟩ := Option.isSome_iff_exists.mp h
      have := Heap.lt_size ho
      rw [q] at this; exact Nat.lt_irrefl _ this
    simp [PH.put, this]
end
end Mine
end

/- part E1 -/
section
open PySem PySem.W PyProof.Rows PySem.Calls PySem.Spec
namespace Mine
inductive BO | add | sub | mul | fdiv | mod | pow
inductive CO | lt | le | gt | ge | eq | ne | is | isNot
inductive KI | int | bool | tuple
set_option genCtorIdx false
mutual
inductive X where
  | lit (d : D)
  | var (i : Nat)
  | bin (op : BO) (l r : X)
  | neg (x : X)
  | ite (c : B) (t e : X)
  | band (l r : X)
  | bor (l r : X)
  | cmp (op : CO) (l r : X)
  | mem (neg : Bool) (l : X) (r : O)
  | cmp2 (op op' : CO) (a b c : X)
  | tup (xs : List X)
  | list (xs : List X)
  | dict0
  | dict1 (k v : X)
  | sub (x : O) (i : X)
  | tok (x : X)
  | slice (x : X) (lo hi : Option X)
  | call (f : Addr) (xs : List X)
  | meth (name : Str) (o : X) (xs : List X)
  | comp (ts : List Nat) (caps : List Nat) (it : I) (c : Option B) (elt : X)
  | comp2 (t t' : Nat) (caps : List Nat) (it it' : I) (elt : X)
  | len (x : O)
  | abs (x : X)
  | sum (x : X)
  | max (x : X)
  | tupleOf (x : X)
  | listOf (x : I)
  | dictOf (x : X)
  | sorted (x : X)
  | isinst (x : X) (k : KI)
  | zipAdd (a : X) (b : O)
  | fld (c : Addr) (x : X)
  | keysOf (x : X)
inductive B where
  | plain (x : X)
  | not (b : B)
  | band (l r : B)
  | bor (l r : B)
inductive I where
  | plain (x : X)
  | range (x : X)
  | enum (x : X)
  | zip (a b : X)
  | items (x : X)
inductive O where
  | var (i : Nat)
  | plain (x : X)
end
inductive S where
  | assign (ts : List Nat) (x : X)
  | own (i : Nat) (x : X)
  | ownL (i j : Nat) (x y : X)
  | ownR (i j : Nat) (x y : X)
  | aug (i : Nat) (op : BO) (x : X)
  | augSub (i : Nat) (ix : X) (op : BO) (x : X)
  | setItem (i : Nat) (ix x : X)
  | append (i : Nat) (x : X)
  | delFirst (i : Nat)
  | delLast (i : Nat)
  | ifs (c : B) (a b : List S)
  | fors (ts : List Nat) (it : I) (body : List S)
  | ret (x : X)
  | assert (x : B)
set_option genCtorIdx true
/- sizes that we let pass -/
noncomputable abbrev big : Nat := 1000000
noncomputable def mulOk (a b : Int) : Bool := decide (a.natAbs < 2 ^ 4000) && decide (b.natAbs < 2 ^ 4000)
noncomputable def D.asB : D → Option Bool
  | .bool b => some b
  | _ => .none
noncomputable def D.asI : D → Option Int
  | .int b => some b
  | _ => .none
noncomputable def D.asS : D → Option Str
  | .str b => some b
  | _ => .none
noncomputable def D.asT : D → Option (List D)
  | .tup b => some b
  | _ => .none
noncomputable def D.asL : D → Option (List D)
  | .list b => some b
  | _ => .none
noncomputable def D.asM : D → Option (List (Int × D))
  | .dict b => some b
  | _ => .none
theorem nope {α : Type _} {x : α} {p : Prop} (h : (.none : Option α) = some x) : p := nomatch h
noncomputable def D.asN : D → Option (Addr × D)
  | .inst c d => some (c, d)
  | _ => .none
theorem asN_inv {d : D} {x : Addr × D} (h : d.asN = some x) : d = .inst x.1 x.2 := by cases d <;> first | exact nope h | exact congrArg (fun p => D.inst p.1 p.2) (Option.some.inj h)
theorem asB_inv {d : D} {x : Bool} (h : d.asB = some x) : d = .bool x := by cases d <;> first | exact nope h | exact congrArg D.bool (Option.some.inj h)
theorem asI_inv {d : D} {x : Int} (h : d.asI = some x) : d = .int x := by cases d <;> first | exact nope h | exact congrArg D.int (Option.some.inj h)
theorem asS_inv {d : D} {x : Str} (h : d.asS = some x) : d = .str x := by cases d <;> first | exact nope h | exact congrArg D.str (Option.some.inj h)
theorem asT_inv {d : D} {x : List D} (h : d.asT = some x) : d = .tup x := by cases d <;> first | exact nope h | exact congrArg D.tup (Option.some.inj h)
theorem asL_inv {d : D} {x : List D} (h : d.asL = some x) : d = .list x := by cases d <;> first | exact nope h | exact congrArg D.list (Option.some.inj h)
theorem asM_inv {d : D} {x : List (Int × D)} (h : d.asM = some x) : d = .dict x := by cases d <;> first | exact nope h | exact congrArg D.dict (Option.some.inj h)
noncomputable def eqqL (f : D → D → Option Bool) : List D → List D → Option Bool
  | [], [] => some true
  | a :: as, b :: bs => do let x ← f a b; let y ← eqqL f as bs; some (x && y)
  | _, _ => some false
/- every key of the first stands in the second with an equal value -/
noncomputable def eqqM (f : D → D → Option Bool) : List (Int × D) → List (Int × D) → Option Bool
  | [], _ => some true
  | (k, d) :: r, m => do
    let x ← (match m.find? (fun p => decide (p.1 = k)) with | some p => f d p.2 | .none => some false)
    let y ← eqqM f r m
    some (x && y)
/- whether two data are equal; none: kinds that we do not compare, or too deep -/
noncomputable def eqS (g : Option (D → D → Option Bool)) (a b : D) : Option Bool := match a with
  | .bool x => b.asB.bind fun y => some (x == y)
  | .int x => b.asI.bind fun y => some (decide (x = y))
  | .str x => b.asS.bind fun y => some (decide (x = y))
  | .tup x => b.asT.bind fun y => g.bind fun f => eqqL f x y
  | .list x => b.asL.bind fun y => g.bind fun f => if x.length = y.length then eqqL f x y else some false
  | .dict x => b.asM.bind fun y => g.bind fun f => if x.length = y.length then eqqM f x y else some false
  | _ => .none
noncomputable def D.eqq : Nat → D → D → Option Bool
  | 0 => eqS .none
  | n + 1 => eqS (some (D.eqq n))
noncomputable def D.ints : List D → Option (List Int)
  | [] => some []
  | d :: r => d.asI.bind fun i => (D.ints r).map (i :: ·)
noncomputable def D.truth : D → Option Bool
  | .bool b => some b
  | .str x => if x.length ≤ big then some (decide (x.length ≠ 0)) else .none
  | _ => .none
noncomputable def lenOk {α : Type} (l : List α) (d : D) : Option D := if l.length ≤ big then some d else .none
noncomputable def lenN {α : Type} (l : List α) : Option D := if l.length ≤ big then some (.int l.length) else .none
noncomputable def lenD : D → Option D
  | .list l => lenN l
  | .tup l => lenN l
  | .str x => if x.length ≤ big then some (.int x.length) else .none
  | _ => .none
noncomputable def intK : KI → Bool
  | .int => true
  | _ => false
noncomputable def tupK : KI → Option D
  | .tuple => some (.bool true)
  | _ => .none
noncomputable def instD (d : D) (k : KI) : Option D := match d with
  | .int _ => some (.bool (intK k))
  | .tup _ => tupK k
  | _ => .none
noncomputable def addD (a b : D) : Option D := match a with
  | .int x => b.asI.bind fun y => some (.int (x + y))
  | .str x => b.asS.bind fun y => if (x ++ y).length ≤ big then some (.str (x ++ y)) else .none
  | .list x => b.asL.bind fun y => lenOk (x ++ y) (.list (x ++ y))
  | .tup x => b.asT.bind fun y => if x.isEmpty || y.isEmpty then .none else lenOk (x ++ y) (.tup (x ++ y))
  | _ => .none
noncomputable def sbtD (a b : D) : Option D := match a with
  | .int x => b.asI.bind fun y => some (.int (x - y))
  | .bool x => b.asB.bind fun y => some (.int ((if x then 1 else 0) - (if y then 1 else 0)))
  | _ => .none
noncomputable def oneD : List D → Option D
  | [d] => some d
  | _ => .none
theorem oneD_inv {l : List D} {d : D} (h : oneD l = some d) : l = [d] := by
  rcases l with _ | ⟨a, _ | ⟨b, r⟩⟩ <;> first | exact nope h | exact congrArg ([·]) (Option.some.inj h)
noncomputable def mulD (a b : D) : Option D := match a with
  | .int x => b.asI.bind fun y => if mulOk x y then some (.int (x * y)) else .none
  | .list l => b.asI.bind fun n => (oneD l).bind fun d => if 0 ≤ n ∧ n ≤ 10000 then some (.list (List.replicate n.toNat d)) else .none
  | _ => .none
noncomputable def binD (op : BO) (a b : D) : Option D := match op with
  | .add => addD a b
  | .sub => sbtD a b
  | .mul => mulD a b
  | .fdiv => a.asI.bind fun x => b.asI.bind fun y => if 0 < y ∧ y < 1073741824 then some (.int (x.fdiv y)) else .none
  | .mod => a.asI.bind fun x => b.asI.bind fun y => if 0 < y ∧ y < 1073741824 then some (.int (x.fmod y)) else .none
  | .pow => a.asI.bind fun x => b.asI.bind fun n => if 0 ≤ n ∧ n ≤ 100 ∧ x.natAbs < 2 ^ 64 then some (.int (x ^ n.toNat)) else .none
noncomputable def cmpD (op : CO) (a b : D) : Option Bool := match op with
  | .lt => a.asI.bind fun x => b.asI.bind fun y => some (decide (x < y))
  | .le => a.asI.bind fun x => b.asI.bind fun y => some (decide (x ≤ y))
  | .gt => a.asI.bind fun x => b.asI.bind fun y => some (decide (x > y))
  | .ge => a.asI.bind fun x => b.asI.bind fun y => some (decide (x ≥ y))
  | .eq => D.eqq 8 a b
  | .ne => (D.eqq 8 a b).map (!·)
  | .is => a.asB.bind fun x => b.asB.bind fun y => some (x == y)
  | .isNot => a.asB.bind fun x => b.asB.bind fun y => some (!(x == y))
noncomputable def memD (n : Bool) (a b : D) : Option Bool := match n with
  | false => a.asI.bind fun x => b.asM.bind fun m => some ((m.map (·.1)).contains x)
  | true => match a with
    | .str x => b.asS.bind fun y => some (!Txt.contains y x)
    | .int x => b.asL.bind fun l => (D.ints l).map fun ns => !(ns.contains x)
    | _ => .none
/- an index into a sequence of that length -/
noncomputable def idxOf (i : Int) (n : Nat) : Option Nat := if 0 ≤ i ∧ i < n then some i.toNat else if i < 0 ∧ -(n : Int) ≤ i then some (i + n).toNat else .none
noncomputable def seqI (l : List D) (i : Int) : Option D := if l.length ≤ big then (idxOf i l.length).bind fun k => l[k]? else .none
noncomputable def subD (a b : D) : Option D := b.asI.bind fun i => match a with
  | .list l => seqI l i
  | .tup l => seqI l i
  | .dict m => (m.find? fun p => decide (p.1 = i)).map (·.2)
  | _ => .none
/- the text's table of signs -/
noncomputable def tokD : D → Option D
  | .str x => if x = Str.ofString "+" then some (.int 14) else if x = Str.ofString "-" then some (.int 15) else .none
  | _ => .none
noncomputable def cutD (d : D) (k : Int) : Option D := match d with
  | .list l => if 0 ≤ k ∧ l.length ≤ big then some (.list (l.take k.toNat)) else .none
  | .tup l => if 0 ≤ k ∧ k < l.length ∧ l.length ≤ big then some (.tup (l.take k.toNat)) else .none
  | .str x => if x.length ≤ 1000 then some (.str (Txt.slice x .none (some k))) else .none
  | _ => .none
noncomputable def sliceD (d : D) (lo hi : Option D) : Option D := match lo with
  | .none => hi.bind fun e => e.asI.bind fun k => cutD d k
  | some e => match hi with
    | .none => e.asI.bind fun k => d.asS.bind fun x => if x.length ≤ 1000 then some (.str (Txt.slice x (some k) .none)) else .none
    | some _ => .none
noncomputable def D.strs : List D → Option (List Str)
  | [] => some []
  | d :: r => d.asS.bind fun i => (D.strs r).map (i :: ·)
noncomputable def maxL : List Int → Option Int
  | [] => .none
  | a :: r => some (r.foldl (fun m x => if x > m then x else m) a)
noncomputable def joinD (sep : Str) (l : List D) : Option D := do
  let ys ← D.strs l
  if (ys.map (·.length)).sum + ys.length * sep.length ≤ big then some (.str (Txt.join sep ys)) else .none
noncomputable def find4 (x y : Str) (lo hi : Nat) : Int := match Builtin.Str.occurrences x y lo hi 1 with | i :: _ => (i : Int) | [] => -1
noncomputable def strD (l : List D) : Option Str := (oneD l).bind D.asS
noncomputable def splitM (x : Str) (xs : List D) : Option D := (strD xs).bind fun y => if y.length ≠ 0 ∧ x.length ≤ 1000 then some (.list ((Txt.split x y).map D.str)) else .none
noncomputable def startM (x : Str) (xs : List D) : Option D := (strD xs).bind fun y => some (.bool (Txt.startswith x y))
noncomputable def endM (x : Str) (xs : List D) : Option D := (strD xs).bind fun y => some (.bool (Txt.endswith x y))
noncomputable def countM (x : Str) (xs : List D) : Option D := (strD xs).bind fun y => some (.int (Txt.count x y))
noncomputable def findM (x : Str) (xs : List D) : Option D := match xs with
  | [d, e, f] => d.asS.bind fun y => e.asI.bind fun a => f.asI.bind fun b => if 0 ≤ a ∧ a ≤ 1000 ∧ 0 ≤ b ∧ b ≤ x.length ∧ x.length ≤ 1000 then some (.int (find4 x y a.toNat b.toNat)) else .none
  | _ => .none
noncomputable def joinM (sep : Str) (xs : List D) : Option D := (oneD xs).bind fun d => match d with
  | .list l => joinD sep l
  | .str x => if x.length ≤ 1000 ∧ sep.length ≤ 10 then some (.str (Txt.join sep (signs x))) else .none
  | _ => .none
noncomputable def methD (name : Str) (o : D) (xs : List D) : Option D := o.asS.bind fun x =>
  if name = Str.ofString "split" then splitM x xs
  else if name = Str.ofString "startswith" then startM x xs
  else if name = Str.ofString "endswith" then endM x xs
  else if name = Str.ofString "count" then countM x xs
  else if name = Str.ofString "find" then findM x xs
  else if name = Str.ofString "join" then joinM x xs
  else .none
noncomputable def sortIns (p : Int × D) : List (Int × D) → List (Int × D)
  | [] => [p]
  | q :: r => if p.1 < q.1 then p :: q :: r else q :: sortIns p r
noncomputable def sortD : List (Int × D) → List (Int × D)
  | [] => []
  | p :: r => sortIns p (sortD r)
/- the orders of keys that we sort -/
noncomputable def sortKeys : List (List Int) := [[3, 2, 1, 0], [2, 1, 0, 3], [2, 1, 0], [1, 0], [0]]
noncomputable def pairD (p : Int × D) : D := .tup [.int p.1, p.2]
/- what a store of ours knows: whether the name alone holds the object, and the datum -/
noncomputable abbrev Rho := Nat → Option (Bool × D)
noncomputable def Rho.get (r : Rho) (i : Nat) : Option D := (r i).bind fun p => if p.1 = false then some p.2 else .none
noncomputable def Rho.owned (r : Rho) (i : Nat) : Option D := (r i).bind fun p => if p.1 = true then some p.2 else .none
theorem get_inv {r : Rho} {i : Nat} {d : D} (h : r.get i = some d) : r i = some (false, d) := by
  obtain ⟨p, e, k⟩ := Option.bind_eq_some_iff.mp h
  obtain ⟨q, k⟩ := isome k
  rw [e, ← q, ← Option.some.inj k]
theorem owned_inv {r : Rho} {i : Nat} {d : D} (h : r.owned i = some d) : r i = some (true, d) := by
  obtain ⟨p, e, k⟩ := Option.bind_eq_some_iff.mp h
  obtain ⟨q, k⟩ := isome k
  rw [e, ← q, ← Option.some.inj k]
noncomputable def Rho.look (r : Rho) (i : Nat) : Option D := (r i).map (·.2)
noncomputable def Rho.set (r : Rho) (i : Nat) (d : D) : Rho := fun j => if j = i then some (false, d) else r j
noncomputable def Rho.own (r : Rho) (i : Nat) (d : D) : Rho := fun j => if j = i then some (true, d) else r j
noncomputable def Rho.freeze (r : Rho) : Rho := fun j => (r j).map fun p => (false, p.2)
noncomputable def nilD : List D → Option (List D)
  | [] => some []
  | _ => .none
noncomputable def headD : List D → Option (D × List D)
  | [] => .none
  | d :: r => some (d, r)
noncomputable def seqD : D → Option (List D)
  | .tup l => some l
  | .list l => some l
  | _ => .none
theorem nilD_inv {y l : List D} (h : nilD y = some l) : y = [] ∧ l = [] := by
  cases y with
  | nil => exact ⟨rfl, (Option.some.inj h).symm⟩
  | cons a b => exact nope h
theorem headD_inv {y : List D} {p : D × List D} (h : headD y = some p) : y = p.1 :: p.2 := by
  cases y with
  | nil => exact nope h
  | cons a b => exact congrArg (fun p => p.1 :: p.2) (Option.some.inj h)
noncomputable def Rho.setAll (r : Rho) : List Nat → List D → Option Rho
  | [], l => (nilD l).map fun _ => r
  | i :: is, l => (headD l).bind fun p => Rho.setAll (r.set i p.1) is p.2
theorem setAll_nil {r r' : Rho} {l : List D} (h : r.setAll [] l = some r') : l = [] ∧ r' = r := by
  obtain ⟨q, e, h⟩ := Option.map_eq_some_iff.mp h
  exact ⟨(nilD_inv e).1, h.symm⟩
theorem setAll_cons {r r' : Rho} {i : Nat} {is : List Nat} {l : List D} (h : r.setAll (i :: is) l = some r') : ∃ d ds, l = d :: ds ∧ (r.set i d).setAll is ds = some r' := by
  obtain ⟨q, e, h⟩ := bsome h
  exact ⟨_, _, headD_inv e, h⟩
theorem setAll_len : ∀ {is : List Nat} {ds : List D} {r r' : Rho}, r.setAll is ds = some r' → is.length = ds.length
  | [], _, _, _, h => by rw [(setAll_nil h).1]; rfl
  | _ :: _, _, _, _, h => by
    obtain ⟨d, t, e, h⟩ := setAll_cons h
    rw [e, List.length_cons, List.length_cons, setAll_len h]
noncomputable def spread (r : Rho) (is : List Nat) (d : D) : Option Rho := (seqD d).bind fun l => r.setAll is l
noncomputable def Rho.put (r : Rho) (ts : List Nat) (d : D) : Option Rho := match ts with
  | [i] => some (r.set i d)
  | _ => spread r ts d
/- the block of a comprehension: what it has caught -/
noncomputable def Rho.block (r : Rho) (caps : List Nat) : Rho := fun j => if caps.contains j then (r.get j).map fun d => (false, d) else .none
noncomputable abbrev Orac := Addr → List D → Option D
structure Cx where
  Φ : Orac
noncomputable def charsD (x : Str) : List D := (signs x).map D.str
noncomputable def enumD : Nat → List D → List D
  | _, [] => []
  | n, d :: r => .tup [.int n, d] :: enumD (n + 1) r
noncomputable def zipD : List D → List D → List D
  | a :: as, b :: bs => .tup [a, b] :: zipD as bs
  | _, _ => []
/- what an object gives when it is gone through -/
noncomputable def iterD : D → Option (List D)
  | .list l => some l
  | .tup l => some l
  | .dict m => some (m.map fun p => .int p.1)
  | .str x => if x.length ≤ 1000 ∧ x.cps.all (· < 128) then some (charsD x) else .none
  | _ => .none
noncomputable def headI : List D → Option (Int × List D)
  | [] => .none
  | d :: r => d.asI.map (·, r)
noncomputable def zipAddD : List D → List D → Option (List D)
  | [], y => nilD y
  | d :: x, y => d.asI.bind fun a => (headI y).bind fun p => (zipAddD x p.2).map (.int (a + p.1) :: ·)
noncomputable def filtM (f : D → Option (Option D)) : List D → Option (List D)
  | [] => some []
  | d :: r => do
    let x ← f d
    let ys ← filtM f r
    match x with
    | some y => some (y :: ys)
    | .none => some ys
noncomputable def flatMM (f : D → Option (List D)) : List D → Option (List D)
  | [] => some []
  | d :: r => do
    let x ← f d
    let ys ← flatMM f r
    some (x ++ ys)
mutual
/- the datum of an expression -/
noncomputable def ev (C : Cx) (r : Rho) : X → Option D
  | .lit d => some d
  | .var i => r.get i
  | .bin op a b => do let x ← ev C r a; let y ← ev C r b; binD op x y
  | .neg a => do let d ← ev C r a; let i ← d.asI; some (.int (-i))
  | .ite c t e => do if ← evB C r c then ev C r t else ev C r e
  | .band a b => do let d ← ev C r a; let x ← d.asB; if x then ev C r b else some (.bool false)
  | .bor a b => do let d ← ev C r a; let x ← d.asB; if x then some (.bool true) else ev C r b
  | .cmp op a b => do let x ← ev C r a; let y ← ev C r b; let z ← cmpD op x y; some (.bool z)
  | .mem n a b => do let x ← ev C r a; let y ← evO C r b; let z ← memD n x y; some (.bool z)
  | .cmp2 op op' a b c => do
    let x ← ev C r a; let y ← ev C r b
    if ← cmpD op x y then do let z ← ev C r c; let q ← cmpD op' y z; some (.bool q) else some (.bool false)
  | .tup xs => do let l ← evL C r xs; lenOk l (.tup l)
  | .list xs => do let l ← evL C r xs; lenOk l (.list l)
  | .dict0 => some (.dict [])
  | .dict1 k v => do let a ← ev C r k; let b ← ev C r v; let i ← a.asI; some (.dict [(i, b)])
  | .sub a i => do let x ← evO C r a; let y ← ev C r i; subD x y
  | .tok a => do let x ← ev C r a; tokD x
  | .slice a lo hi => do
    let x ← ev C r a
    let y ← evP C r lo
    let z ← evP C r hi
    sliceD x y z
  | .call f xs => do let l ← evL C r xs; C.Φ f l
  | .meth n o xs => do let d ← ev C r o; let l ← evL C r xs; methD n d l
  | .comp ts caps it c elt => do
    let l ← evI C r it
    let _ ← lenOk l .none
    let q ← filtM (fun d => do
      let r' ← (r.block caps).put ts d
      let go ← evT C r' c
      if go then do let y ← ev C r' elt; some (some y) else some .none) l
    lenOk q (.list q)
  | .comp2 t t' caps it it' elt => do
    let l ← evI C r it
    let _ ← lenOk l .none
    let q ← flatMM (fun d => do
      let l' ← evI C ((r.block caps).set t d) it'
      filtM (fun d' => do let y ← ev C (((r.block caps).set t d).set t' d') elt; some (some y)) l') l
    lenOk q (.list q)
  | .len a => do let d ← evO C r a; lenD d
  | .abs a => do let d ← ev C r a; let i ← d.asI; some (.int i.natAbs)
  | .sum a => do let d ← ev C r a; let l ← d.asL; (D.ints l).map fun ns => .int ns.sum
  | .max a => do let d ← ev C r a; let l ← d.asL; (D.ints l).bind fun ns => (maxL ns).map D.int
  | .tupleOf a => do let d ← ev C r a; let l ← d.asL; lenOk l (.tup l)
  | .listOf a => do let l ← evI C r a; lenOk l (.list l)
  | .dictOf a => do let d ← ev C r a; let m ← d.asM; if m.length ≤ big then some (.dict m) else .none
  | .sorted b => do let d ← ev C r b; let m ← d.asM; if sortKeys.contains (m.map (·.1)) then some (.list ((sortD m).map pairD)) else .none
  | .isinst a k => do let d ← ev C r a; instD d k
  | .zipAdd a b => do let d ← ev C r a; let e ← evO C r b; let x ← d.asT; let y ← e.asT; (zipAddD x y).bind fun l => lenOk l (.tup l)
  | .fld c a => do let d ← ev C r a; let p ← d.asN; let l ← p.2.asL; if p.1 = c then some (.list l) else .none
  | .keysOf a => do let d ← ev C r a; let m ← d.asM; lenOk m (.list (m.map fun p => .int p.1))
/- a name that alone holds its object may be looked at -/
noncomputable def evO (C : Cx) (r : Rho) : O → Option D
  | .var i => r.look i
  | .plain x => ev C r x
/- whether a test holds -/
noncomputable def evB (C : Cx) (r : Rho) : B → Option Bool
  | .plain x => do let d ← ev C r x; d.truth
  | .not a => do let b ← evB C r a; some (!b)
  | .band a b => do if ← evB C r a then evB C r b else some false
  | .bor a b => do if ← evB C r a then some true else evB C r b
/- what is gone through -/
noncomputable def evI (C : Cx) (r : Rho) : I → Option (List D)
  | .plain x => do let d ← ev C r x; iterD d
  | .range a => do let d ← ev C r a; let n ← d.asI; if 0 ≤ n ∧ n ≤ 1000 then some ((List.range n.toNat).map fun (k : Nat) => .int k) else .none
  | .enum a => do let d ← ev C r a; let l ← d.asL; some (enumD 0 l)
  | .zip a b => do let d ← ev C r a; let e ← ev C r b; let l ← d.asL; let m ← e.asL; some (zipD l m)
  | .items a => do let d ← ev C r a; let m ← d.asM; some (m.map pairD)
noncomputable def evP (C : Cx) (r : Rho) : Option X → Option (Option D)
  | .none => some .none
  | some e => (ev C r e).map some
noncomputable def evT (C : Cx) (r : Rho) : Option B → Option Bool
  | .none => some true
  | some e => evB C r e
noncomputable def evL (C : Cx) (r : Rho) : List X → Option (List D)
  | [] => some []
  | x :: xs => do let d ← ev C r x; let l ← evL C r xs; some (d :: l)
end
inductive Fl where
  | next
  | ret (d : D)
noncomputable def forM (f : D → Rho → Option (Fl × Rho)) : List D → Rho → Option (Fl × Rho)
  | [], r => some (.next, r)
  | d :: ds, r => do
    let (q, r') ← f d r
    match q with
    | .next => forM f ds r'
    | .ret x => some (.ret x, r')
noncomputable def setM (m : List (Int × D)) (k : Int) (d : D) : List (Int × D) := match m with
  | [] => [(k, d)]
  | p :: q => if p.1 = k then (k, d) :: q else p :: setM q k d
/- the value, the names read; else with all names given up as sole holders -/
noncomputable def evF (C : Cx) (r : Rho) (x : X) : Option (D × Rho) := match ev C r x with
  | some d => some (d, r)
  | .none => (ev C r.freeze x).map fun d => (d, r.freeze)
noncomputable def evIF (C : Cx) (r : Rho) (x : I) : Option (List D × Rho) := match evI C r x with
  | some d => some (d, r)
  | .none => (evI C r.freeze x).map fun d => (d, r.freeze)
noncomputable def augO : BO → Option (Int → Int → Int)
  | .add => some (fun a b => a + b)
  | .sub => some (fun a b => a - b)
  | _ => .none
noncomputable def augD (op : BO) (a b : D) : Option D := (augO op).bind fun f => a.asI.bind fun x => b.asI.bind fun y => some (.int (f x y))
noncomputable def augAt (op : BO) (o : D) (k : Int) (b : Option D) : Option D := match o with
  | .list l => if l.length ≤ big ∧ 0 ≤ k then l[k.toNat]?.bind fun a => b.bind fun e => (augD op a e).bind fun d => some (.list (l.set k.toNat d)) else .none
  | .dict m => if m.length ≤ big then ((m.find? fun p => decide (p.1 = k)).map (·.2)).bind fun a => b.bind fun e => (augD op a e).bind fun d => some (.dict (setM m k d)) else .none
  | _ => .none
noncomputable def delAt (last : Bool) : List D → Option D
  | [] => .none
  | a :: l => if l.length ≤ big then some (.list (if last then (a :: l).dropLast else l)) else .none
mutual
noncomputable def exec (C : Cx) (r : Rho) : S → Option (Fl × Rho)
  | .assign ts x => do let (d, r) ← evF C r x; let r' ← r.put ts d; some (.next, r')
  | .own i x => do let d ← ev C r x; some (.next, r.own i d)
  | .ownL i j x y => do let d ← ev C r x; let e ← ev C r y; some (.next, (r.own i d).set j e)
  | .ownR i j x y => do let d ← ev C r x; let e ← ev C r y; some (.next, (r.set i d).own j e)
  | .aug i op x => do let a ← r.get i; let b ← ev C r x; let d ← augD op a b; some (.next, r.set i d)
  | .augSub i ix op x => do let o ← r.owned i; let d ← ev C r ix; let k ← d.asI; let q ← augAt op o k (ev C r x); some (.next, r.own i q)
  | .setItem i ix x => do let d ← ev C r x; let e ← ev C r ix; let o ← r.owned i; let m ← o.asM; let k ← e.asI; if m.length ≤ big then some (.next, r.own i (.dict (setM m k d))) else .none
  | .append i x => do let d ← ev C r x; let o ← r.owned i; let l ← o.asL; if l.length ≤ big then some (.next, r.own i (.list (l ++ [d]))) else .none
  | .delFirst i => do let o ← r.owned i; let l ← o.asL; let q ← delAt false l; some (.next, r.own i q)
  | .delLast i => do let o ← r.owned i; let l ← o.asL; let q ← delAt true l; some (.next, r.own i q)
  | .ifs c a b => do if ← evB C r c then execs C r a else execs C r b
  | .fors ts it body => do
    let (l, r) ← evIF C r it
    forM (fun d r => do let r' ← r.put ts d; execs C r' body) l r
  | .ret x => do let d ← ev C r.freeze x; some (.ret d, r.freeze)
  | .assert x => do if ← evB C r x then some (.next, r) else .none
noncomputable def execs (C : Cx) (r : Rho) : List S → Option (Fl × Rho)
  | [] => some (.next, r)
  | s :: ss => do
    let (q, r') ← exec C r s
    match q with
    | .next => execs C r' ss
    | .ret d => some (.ret d, r')
end
/- a def: its parameters are the first names -/
noncomputable def Rho.args : List D → Rho
  | [], _ => .none
  | d :: _, 0 => some (false, d)
  | _ :: ds, n + 1 => Rho.args ds n
noncomputable def Fl.val : Fl → Option D
  | .ret d => some d
  | .next => .none
theorem val_inv {q : Fl} {d : D} (h : q.val = some d) : q = .ret d := by
  cases q with
  | next => exact nope h
  | ret x => exact congrArg Fl.ret (Option.some.inj h)
noncomputable def run (C : Cx) (body : List S) (ds : List D) : Option D := (execs C (Rho.args ds) body).bind fun p => p.1.val
end Mine
end

/- part E2 -/
section
open PySem PySem.W PyProof.Rows PySem.Calls PySem.Spec
namespace Mine
/- the world of the claim -/
structure U0 where
  prog : Program
  w : World
  K : Frag
  p : Program
  loose : List Str
  mean : ExcName → Option Value
  mg : Str → Option Value
  mb : Str → Option Value
structure U0.Base (U : U0) (h : Heap) : Prop where
  ins : U.K.In h
  kt : U.K.lookup tabP = none
  top : TopRead U.p U.loose U.mg U.mb h
  lim : h.NoLimit
  tab : TabOk h
  bm : ∃ bm ob, U.mg "__builtins__" = some (.ref bm) ∧ bm ≠ builtinsNs ∧ h.get? bm = some ob ∧ ob.cls = .type "module" ∧ ob.dict = some builtinsNs ∧ ob.data = .plain
theorem Ns.kp {h h' : Heap} {a : Addr} {m : Str → Option Value} (x : h.Ns a m) (t : TabOk h) (k : Kp h h') : h'.Ns a m := x.at' fun o e => k.kp _ o (t.np_ns x) e
theorem NoLimit.kp {h h' : Heap} (x : h.NoLimit) (t : TabOk h) (k : Kp h h') : h'.NoLimit := let ⟨m, h1, h2⟩ := x; ⟨m, Ns.kp h1 t k, h2⟩
theorem U0.Base.keeps {U : U0} {h h' : Heap} (B : U.Base h) (k : Kp h h') : U.Base h' :=
  ⟨fun a o e => k.kp a o (fun q => by have := B.kt; rw [← q, e] at this; cases this) (B.ins a o e), B.kt, ⟨Ns.kp B.top.g B.tab k, Ns.kp B.top.b B.tab k, NoLimit.kp B.top.nolimit B.tab k, B.top.builtins, B.top.free⟩, NoLimit.kp B.lim B.tab k, k.tab B.tab, let ⟨bm, ob, a1, a2, a3, a4, a5, a6⟩ := B.bm; ⟨bm, ob, a1, a2, k.kp _ _ (B.tab.np_cls a3 (by rw [a4]; exact fun q => by cases q)) a3, a4, a5, a6⟩⟩
theorem U0.Base.np {U : U0} {h : Heap} (B : U.Base h) {b : Addr} (e : h.get? b = none) : b ≠ tabP := B.tab.np e
theorem U0.Base.notModules {U : U0} {h : Heap} (B : U.Base h) : (h.objs.size == sysModules) = false := by
  obtain ⟨o, e⟩ := Option.isSome_iff_exists.mp B.tab.alive
  have h1 : tabP < h.objs.size := Heap.lt_size e
  rw [beq_eq_false_iff_ne]
  exact Nat.ne_of_gt (Nat.lt_of_le_of_lt (by decide) h1)
structure Room (A : Around) (l : Nat) : Prop where
  hand : A.handled = none
  depth : A.depth + 20 * l < recursionLimit
  units : A.units + 200 * l < cLine
noncomputable def RepTop (h : Heap) (G : PH) : D → Value → Prop
  | .list l, v => ∃ a vs n, v = .ref a ∧ h.get? a = some (lstO vs n) ∧ RepL G l vs.toList
  | .dict l, v => ∃ a o kvs, v = .ref a ∧ h.get? a = some o ∧ IntDict o kvs ∧ (a == sysModules) = false ∧ RepM G l kvs
  | d, v => Rep G d v
theorem Rep.top {h : Heap} {G : PH} (hG : ∀ a o, G a = some o → h.get? a = some o) {d : D} {v : Value} (r : Rep G d v) : RepTop h G d v := by
  cases d with
  | list l => simp only [Rep] at r; obtain ⟨a, vs, n, e, g, q⟩ := r; exact ⟨a, vs, n, e, hG _ _ g, q⟩
  | dict l => simp only [Rep] at r; obtain ⟨a, o, kvs, e, g, i, z, q⟩ := r; exact ⟨a, o, kvs, e, hG _ _ g, i, z, q⟩
  | _ => exact r
theorem IntDict.np {h : Heap} (t : TabOk h) {a : Addr} {o : Obj} {kvs : List (Int × Value)} (g : h.get? a = some o) (i : IntDict o kvs) : a ≠ tabP :=
  t.np_of g fun vs q => by obtain ⟨es, ep, _, e, _⟩ := i; rw [e] at q; cases q
theorem lst_np {h : Heap} (t : TabOk h) {a : Addr} {vs : Array Value} {n : Nat} (g : h.get? a = some (lstO vs n)) : a ≠ tabP := t.np_of g fun vs q => by cases q
theorem RepTop.mono {h h' : Heap} {G G' : PH} (t : TabOk h) (k : Kp h h') (le : G.le G') {d : D} {v : Value} (r : RepTop h G d v) : RepTop h' G' d v := by
  cases d with
  | list l => obtain ⟨a, vs, n, e, g, q⟩ := r; exact ⟨a, vs, n, e, k.kp _ _ (lst_np t g) g, q.mono le⟩
  | dict l => obtain ⟨a, o, kvs, e, g, i, z, q⟩ := r; exact ⟨a, o, kvs, e, k.kp _ _ (i.np t g) g, i, z, q.mono le⟩
  | _ => exact Rep.mono le r
/- where a name of a frame stands -/
inductive VarAt (env : Env) (h : Heap) (x : Str) (v : Value) : Prop
  | loc (m : Str → Option Value) : env.kindOf x = some .local → h.Ns env.locals m → m x = some v → VarAt env h x v
  | cell (c : Addr) : env.kindOf x = some .cell → env.cells.lookup x = some c → h.IsCell c (some v) → VarAt env h x v
  | free (c : Addr) : env.kindOf x = some .free → env.cells.lookup x = some c → h.IsCell c (some v) → VarAt env h x v
theorem IsCell.keeps {h h' : Heap} {c : Addr} {v : Option Value} (x : h.IsCell c v) (t : TabOk h) (k : Kp h h') : h'.IsCell c v := by
  have n := t.np_cell x
  refine bC fun z_ => ?_
  (obtain ⟨o, a, b⟩ := x) <;> refine z_ ?_ <;> clear z_
  exact ⟨o, k.kp _ _ n a, b⟩
theorem VarAt.keeps {env : Env} {h h' : Heap} {x : Str} {v : Value} (t : TabOk h) (k : Kp h h') : VarAt env h x v → VarAt env h' x v
  | .loc m a b c => .loc m a (Ns.kp b t k) c
  | .cell c a b d => .cell c a b (IsCell.keeps d t k)
  | .free c a b d => .free c a b (IsCell.keeps d t k)
/- the names' table: each index a name, no name that the machine reads in a way of its own -/
structure Zz where
  sc : Scope
  tbl : List Str
  code : Value
structure EnvOk (Z : Zz) (env : Env) : Prop where
  sc : env.scope = Z.sc
  kind : env.scope.kind = .function
  glob : env.globals = mainGlobals
  blt : env.builtins = builtinsNs
  cel : ∀ x, Z.sc.names.lookup x = some .cell → ∃ c, env.cells.lookup x = some c
  nd : Z.tbl.Nodup
  code : env.code = Z.code
/- what the names hold -/
structure SRel (Z : Zz) (env : Env) (r : Rho) (G : PH) (h : Heap) : Prop where
  gle : ∀ a o, G a = some o → h.get? a = some o
  var : ∀ i b d, r i = some (b, d) → ∃ x v, Z.tbl[i]? = some x ∧ VarAt env h x v ∧ RepTop h G d v ∧ (b = false → Rep G d v)
  gt : G tabP = none
  tab : TabOk h
theorem SRel.ext {Z : Zz} {env : Env} {r : Rho} {G G' : PH} {s s' : Shared} (R : SRel Z env r G s.heap) (x : ExtE s s' G G') : SRel Z env r G' s'.heap :=
  ⟨x.sub, fun i b d e => by
    refine bC fun z_ => ?_
    (obtain ⟨y, v, a, b', c, d'⟩ := R.var i b d e) <;> refine z_ ?_ <;> clear z_
    exact ⟨y, v, a, b'.keeps R.tab x.keep, c.mono R.tab x.keep x.le, fun q => (d' q).mono x.le⟩, by rw [x.old _ R.tab.alive]; exact R.gt, x.keep.tab R.tab⟩
/- the expression says what the term says -/
noncomputable def Snd (U : U0) (l : Nat) (C : Cx) (Z : Zz) (e : Expr) (x : X) : Prop :=
  ∀ (A : Around) (env : Env) (s : Shared) (G : PH) (r : Rho) (d : D), EnvOk Z env → Room A l → U.Base s.heap → SRel Z env r G s.heap → ev C r x = some d → OkV U.prog U.w A (eval e env) s G d
/- as a test -/
noncomputable def SndB (U : U0) (l : Nat) (C : Cx) (Z : Zz) (e : Expr) (x : B) : Prop :=
  ∀ (A : Around) (env : Env) (s : Shared) (G : PH) (r : Rho) (b : Bool), EnvOk Z env → Room A l → U.Base s.heap → SRel Z env r G s.heap → evB C r x = some b → OkB U.prog U.w A (isTrue e env (eval e env)) s G b
/- looked at only -/
noncomputable def SndO (U : U0) (l : Nat) (C : Cx) (Z : Zz) (e : Expr) (x : O) : Prop :=
  ∀ (A : Around) (env : Env) (s : Shared) (G : PH) (r : Rho) (d : D), EnvOk Z env → Room A l → U.Base s.heap → SRel Z env r G s.heap → evO C r x = some d →
    wpAny (model U.prog U.w) A (eval e env) (fun v s' => ∃ G', ExtE s s' G G' ∧ RepTop s'.heap G' d v) (fun _ _ => False) s
noncomputable def SndL (U : U0) (l : Nat) (C : Cx) (Z : Zz) (es : List Expr) (xs : List X) : Prop :=
  ∀ (A : Around) (env : Env) (s : Shared) (G : PH) (r : Rho) (ds : List D) (pos : Pos), EnvOk Z env → Room A l → U.Base s.heap → SRel Z env r G s.heap → evL C r xs = some ds → OkVs U.prog U.w A (spliced (backTo pos (starEach es env))) s G ds
section
variable {U : U0} {l : Nat} {C : Cx} {Z : Zz}
theorem Snd.int {i : Int} {k : Nat} {pos : Pos} : Snd U l C Z (.Constant (.int i) k pos) (.lit (.int i)) := by
  intro A env s G r d hE hR hB R e
  have e := Option.some.inj e; subst e
  exact wpAny_Constant_int (OkV.here R.gle (by simp only [Rep]; exact ⟨_, rfl⟩))
theorem Snd.str {x : Str} {k : Nat} {pos : Pos} : Snd U l C Z (.Constant (.str x) k pos) (.lit (.str x)) := by
  intro A env s G r d hE hR hB R e
  have e := Option.some.inj e; subst e
  exact wpAny_Constant_str (OkV.here R.gle (by simp only [Rep]; exact ⟨_, rfl⟩))
theorem Snd.bool {b : Bool} {k : Nat} {pos : Pos} : Snd U l C Z (.Constant (.bool b) k pos) (.lit (.bool b)) := by
  intro A env s G r d hE hR hB R e
  have e := Option.some.inj e; subst e
  exact wpAny_Constant_bool ⟨G, ExtE.refl R.gle, by simp only [Rep]⟩
theorem Snd.none {k : Nat} {pos : Pos} : Snd U l C Z (.Constant .none k pos) (.lit .none) := by
  intro A env s G r d hE hR hB R e
  have e := Option.some.inj e; subst e
  exact wpAny_Constant_none ⟨G, ExtE.refl R.gle, by simp only [Rep]⟩
noncomputable def okName (x : Str) : Bool := !(x == ("__debug__" : Str)) && !(x == ("__classdict__" : Str))
theorem var_at {A : Around} {env : Env} {s : Shared} {x : Str} {v : Value} {pos : Pos} {Q : Value → Shared → Prop} {E : Value → Shared → Prop} (hk : env.scope.kind = .function) (V : VarAt env s.heap x v) (hn : okName x = true) (h : Q v s) :
    wpAny (model U.prog U.w) A (eval (.Name x pos) env) Q E s := by
  unfold okName at hn
  rw [Bool.and_eq_true, Bool.not_eq_true', Bool.not_eq_true'] at hn
  refine wpAny_Name ?_ hn.1
  cases V with
  | loc m a b c => exact wpAny_loadName_local hk a b c h
  | cell c a b d => exact wpAny_loadName_cell hk a b d h
  | free c a b d => exact wpAny_loadName_free hk a b d h hn.2
theorem Snd.var {i : Nat} {x : Str} {pos : Pos} (hx : Z.tbl[i]? = some x) (hn : okName x = true) : Snd U l C Z (.Name x pos) (.var i) := by
  intro A env s G r d hE hR hB R e
  refine bC fun z_ => ?_
  (obtain ⟨y, v, a, b, c, dd⟩ := R.var _ _ _ (get_inv e)) <;> refine z_ ?_ <;> clear z_
  rw [hx] at a; cases a
  exact var_at hE.kind b hn ⟨G, ExtE.refl R.gle, dd rfl⟩
theorem SndO.var {i : Nat} {x : Str} {pos : Pos} (hx : Z.tbl[i]? = some x) (hn : okName x = true) : SndO U l C Z (.Name x pos) (.var i) := by
  intro A env s G r d hE hR hB R e
  have e := Option.map_eq_some_iff.mp (show (r i).map (·.2) = some d from e)
  refine bC fun z_ => ?_
  (obtain ⟨⟨b', d'⟩, q, e⟩ := e) <;> refine z_ ?_ <;> clear z_
  dsimp only at e; subst e
  refine bC fun z_ => ?_
  (obtain ⟨y, v, a, b, c, dd⟩ := R.var _ _ _ q) <;> refine z_ ?_ <;> clear z_
  rw [hx] at a; cases a
  exact var_at hE.kind b hn ⟨G, ExtE.refl R.gle, c⟩
theorem Snd.o {e : Expr} {x : X} (h : Snd U l C Z e x) : SndO U l C Z e (.plain x) := by
  intro A env s G r d hE hR hB R q
  have q : ev C r x = some d := q
  exact wpAny_mono (h A env s G r d hE hR hB R q) (fun v s' ⟨G', a, b⟩ => ⟨G', a, b.top a.sub⟩) fun _ _ f => f
/- a global name: what the written part says -/
theorem Snd.glob {x : Str} {pos : Pos} {v : Value} {d : D} (e : nsIn U.K mainGlobals x = some (some v)) (hk : Z.sc.names.lookup x = some .globalImplicit) (hn : (x == ("__debug__" : Str)) = false) (hv : ∀ G, Rep G d v) :
    Snd U l C Z (.Name x pos) (.lit d) := by
  intro A env s G r d' hE hR hB R q
  have q := Option.some.inj q; subst q
  exact Name_function_global hE.kind (by unfold Env.kindOf; rw [hE.sc]; exact hk) (loadGlobal_global (by rw [hE.glob]; exact hB.top.g) (mg_of hB.ins hB.top.g e) ⟨G, ExtE.refl R.gle, hv G⟩) hn
theorem SndL.nil : SndL U l C Z [] [] := by
  intro A env s G r ds pos hE hR hB R e
  have e := Option.some.inj e; subst e
  exact wpAny_items_nil ⟨G, ExtE.refl R.gle, RepL.nil⟩
noncomputable def notStar : Expr → Bool
  | .Starred .. => false
  | _ => true
theorem starEach_plain {e : Expr} {rest : List Expr} {env : Env} (h : notStar e = true) : starEach (e :: rest) env = (false, eval e env) :: starEach rest env := by
  cases e <;> first | rfl | cases h
theorem SndL.cons {e : Expr} {x : X} {es : List Expr} {xs : List X} (h : Snd U l C Z e x) (t : SndL U l C Z es xs) (hs : notStar e = true) : SndL U l C Z (e :: es) (x :: xs) := by
  intro A env s G r ds pos hE hR hB R q
  obtain ⟨d, qd, k_⟩ := bsome q
  obtain ⟨ds', qs, q⟩ := bsome k_
  cases q
  refine wpAny_items_cons ?_ (starEach_plain hs)
  refine (h A env s G r d hE hR hB R qd).use fun v s' G' x1 r1 => ?_
  refine wpAny_mono (t A env s' G' r ds' pos hE hR (hB.keeps x1.keep) (R.ext x1) qs) (fun vs s'' ⟨G'', x2, r2⟩ => ⟨G'', x1.trans x2, RepL.cons (r1.mono x2.le) r2⟩) fun _ _ f => f
theorem big_line : big ≤ sizeLine := by rw [sizeLine_eq]; decide
theorem OkV.newSeq {A : Around} {s : Shared} {G : PH} {vs : List Value} {ds : List D} {k : Bool} (hG : ∀ a o, G a = some o → s.heap.get? a = some o) (r : RepL G ds vs) :
    ∃ G', ExtE s { s with heap := s.heap.push (if k then tupO vs.toArray 0 else lstO vs.toArray 0) } G G' ∧ Rep G' (if k then .tup ds else .list ds) (.ref s.heap.objs.size) := by
  cases k with
  | false =>
    refine ⟨_, ExtE.push (o := lstO vs.toArray 0) (tk := s.toks) hG rfl, ?_⟩
    simp only [Bool.false_eq_true, if_false, Rep]
    exact ⟨_, _, _, rfl, PH.put_self _ _ _, r.mono (ExtE.push (o := lstO vs.toArray 0) (tk := s.toks) hG rfl).le⟩
  | true =>
    refine ⟨_, ExtE.push (o := tupO vs.toArray 0) (tk := s.toks) hG rfl, ?_⟩
    simp only [if_true, Rep]
    exact ⟨_, _, _, rfl, PH.put_self _ _ _, r.mono (ExtE.push (o := tupO vs.toArray 0) (tk := s.toks) hG rfl).le⟩
theorem lenOk_some {α : Type} {xs : List α} {d d' : D} (h : lenOk xs d = some d') : xs.length ≤ big ∧ d' = d := by
  unfold lenOk at h; split at h
  · rename_i q; cases h; exact ⟨q, rfl⟩
  · cases h
theorem Snd.tup {es : List Expr} {xs : List X} {k : Nat} {pos : Pos} (h : SndL U l C Z es xs) : Snd U l C Z (.Tuple es k pos) (.tup xs) := by
  intro A env s G r d hE hR hB R q
  obtain ⟨ds, qd, q⟩ := bsome q
  obtain ⟨hl, rfl⟩ := lenOk_some q
  refine wpAny_Tuple (wpAny_mono (h A env s G r ds pos hE hR hB R qd) (fun vs s' ⟨G', x1, r1⟩ => ⟨?_, ?_⟩) fun _ _ f => f)
  · rw [r1.length]; exact Nat.le_trans hl big_line
  · obtain ⟨G'', x2, r2⟩ := OkV.newSeq (k := true) (A := A) x1.sub r1
    exact ⟨G'', x1.trans x2, r2⟩
theorem Snd.list {es : List Expr} {xs : List X} {pos : Pos} (h : SndL U l C Z es xs) : Snd U l C Z (.List es pos) (.list xs) := by
  intro A env s G r d hE hR hB R q
  obtain ⟨ds, qd, q⟩ := bsome q
  obtain ⟨hl, rfl⟩ := lenOk_some q
  refine wpAny_List (wpAny_mono (h A env s G r ds pos hE hR hB R qd) (fun vs s' ⟨G', x1, r1⟩ => ⟨?_, ?_⟩) fun _ _ f => f)
  · rw [r1.length]; exact Nat.le_trans hl big_line
  · obtain ⟨G'', x2, r2⟩ := OkV.newSeq (k := false) (A := A) x1.sub r1
    exact ⟨G'', x1.trans x2, r2⟩
end
end Mine
end

/- part E3 -/
section
open PySem PySem.W PyProof.Rows PySem.Calls PySem.Spec
namespace Mine
noncomputable def BO.op : BO → Operator
  | .add => .Add | .sub => .Sub | .mul => .Mult | .fdiv => .FloorDiv | .mod => .Mod | .pow => .Pow
noncomputable def CO.op : CO → CmpOp
  | .lt => .Lt | .le => .LtE | .gt => .Gt | .ge => .GtE | .eq => .Eq | .ne => .NotEq | .is => .Is | .isNot => .IsNot
theorem bits_of_lt {a : Int} {n : Nat} (h : a.natAbs < 2 ^ n) : Builtin.Int.intBits a ≤ n := by
  unfold Builtin.Int.intBits
  split
  · exact Nat.zero_le _
  · rename_i q
    have q' : a.natAbs ≠ 0 := by intro z; apply q; simp [Int.natAbs_eq_zero.mp z]
    have := (Nat.log2_lt q').mpr h
    omega
theorem mulOk_of {a b : Int} (h : mulOk a b = true) : IntMulOk a b := by
  unfold mulOk at h
  rw [Bool.and_eq_true, decide_eq_true_eq, decide_eq_true_eq] at h
  have h1 := bits_of_lt h.1
  have h2 := bits_of_lt h.2
  unfold IntMulOk
  intro q
  rw [Bool.and_eq_true] at q
  have q2 := q.2
  unfold Builtin.Int.intTooBig at q2
  rw [decide_eq_true_eq] at q2
  have : (bitsLine : Int) ≥ 8000 := by decide
  omega
section
variable {prog : Program} {w : World} {A : Around} {s : Shared} {G : PH}
theorem ends_int {d : Int} {t : Tok} {tk : Nat} (hG : ∀ a o, G a = some o → s.heap.get? a = some o) : ∃ G', ExtE s { s with toks := tk } G G' ∧ Rep G' (.int d) (.int d t) :=
  OkV.here hG (by simp only [Rep]; exact ⟨_, rfl⟩)
theorem ends_bool {b : Bool} (hG : ∀ a o, G a = some o → s.heap.get? a = some o) : ∃ G', ExtE s s G G' ∧ Rep G' (.bool b) (.bool b) :=
  ⟨G, ExtE.refl hG, by simp only [Rep]⟩
theorem list_mul {l : Addr} {items : Array Value} {k : Nat} {x : Int} {u : Tok} {Q : Value → Shared → Prop} {E : Value → Shared → Prop} (hl : s.heap.get? l = some (lstO items k)) (hlo : 0 ≤ x) (hhi : x ≤ 10000) (hsz : items.size = 1)
    (h : Q (.ref s.heap.objs.size) { s with heap := s.heap.push (lstO (List.foldl (fun x1 x2 => x1 ++ x2) #[] (List.replicate x.toNat items)) 0) }) :
    wpAny (model prog w) A (binaryOp .Mult (.ref l) (.int x u)) Q E s := by
  have hne : items.isEmpty = false := by
    cases q : items.isEmpty with
    | false => rfl
    | true => rw [Array.isEmpty_iff_size_eq_zero] at q; omega
  refine wpAny_binaryOp_repeat_ref (T := "list") (U := "int") (by decide) ⟨_, hl, rfl⟩ (fun s' => typeIs_int s' x u) noFill_list_mul F.fills_int_mul F.slot_int_rmul repeat_list F.slot_int_index.lookup
    (call_meets F.slot_int_rmul (typeIs_int s x u) F.entry_int_rmul (F.args_int_rmul_2 _ _) (int___rmul___int_list x u l items k)
      ⟨hl, rfl, ⟨_, hl, rfl⟩, call_meets F.slot_list_mul ⟨_, hl, rfl⟩ F.entry_list_mul (F.args_list_mul_2 _ _)
        (AutoListH.list___mul___list_int_3 l items k x u ?_ ?_ ?_) ⟨hl, ?_⟩⟩)
  · simp [Builtin.List.listFitsIndex]; omega
  · rw [hsz]; omega
  · rw [hsz]; simp only [Builtin.List.listTooLong, sizeLine_eq, decide_eq_true_eq]; omega
  · rw [hne]; exact h
theorem foldl_rep (items : Array Value) (x : Value) (h : items.toList = [x]) : ∀ (n : Nat) (acc : Array Value), (List.foldl (fun x1 x2 => x1 ++ x2) acc (List.replicate n items)).toList = acc.toList ++ List.replicate n x
  | 0, acc => by simp
  | n + 1, acc => by
    rw [List.replicate_succ, List.foldl_cons, foldl_rep items x h n, Array.toList_append, h, List.append_assoc, List.replicate_succ]
    rfl
theorem RepL.replicate {d : D} {v : Value} (r : Rep G d v) : ∀ n, RepL G (List.replicate n d) (List.replicate n v)
  | 0 => RepL.nil
  | n + 1 => by rw [List.replicate_succ, List.replicate_succ]; exact RepL.cons r (RepL.replicate r n)
theorem binD_ok {op : BO} {a b d : D} {va vb : Value} (hA : A.handled = .none) (hG : ∀ a o, G a = some o → s.heap.get? a = some o) (ra : Rep G a va) (rb : Rep G b vb) (e : binD op a b = some d) :
    OkV prog w A (binaryOp op.op va vb) s G d := by
  cases op with
  | add => cases a with
    | int x =>
      obtain ⟨y, hy, k_⟩ := bsome e
      clear e; have e := k_; clear k_
      have hy := asI_inv hy; subst hy
      simp only [Rep] at ra rb; obtain ⟨t, rfl⟩ := ra; obtain ⟨u, rfl⟩ := rb; cases e
      exact add_int (ends_int hG)
    | str x =>
      obtain ⟨y, hy, k_⟩ := bsome e
      clear e; have e := k_; clear k_
      have hy := asS_inv hy; subst hy
      simp only [Rep] at ra rb; obtain ⟨t, rfl⟩ := ra; obtain ⟨u, rfl⟩ := rb
      obtain ⟨q, e⟩ := isome e
      cases e
      exact add_str (fun t' tk => OkV.here hG (by simp only [Rep]; exact ⟨_, rfl⟩)) (by rw [Str.length_append] at q; exact Nat.le_trans q big_line)
    | list x =>
      obtain ⟨y, hy, k_⟩ := bsome e
      clear e; have e := k_; clear k_
      have hy := asL_inv hy; subst hy
      simp only [Rep] at ra rb
      obtain ⟨a', vs, n, rfl, ga, r1⟩ := ra; obtain ⟨b', ws, k, rfl, gb, r2⟩ := rb
      obtain ⟨hl, rfl⟩ := lenOk_some e
      refine P.add_list (hG _ _ ga) (hG _ _ gb) ?_ ?_
      · refine ⟨_, ExtE.push (o := lstO (vs ++ ws) 0) (tk := s.toks) hG rfl, ?_⟩
        simp only [Rep]
        exact ⟨_, _, _, rfl, PH.put_self _ _ _, by rw [Array.toList_append]; exact (r1.append r2).mono (ExtE.push (o := lstO (vs ++ ws) 0) (tk := s.toks) hG rfl).le⟩
      · have e1 := r1.length; have e2 := r2.length
        rw [List.length_append] at hl
        rw [Array.length_toList] at e1 e2
        rw [e1, e2]
        exact Nat.le_trans hl big_line
    | tup x =>
      obtain ⟨y, hy, k_⟩ := bsome e
      clear e; have e := k_; clear k_
      have hy := asT_inv hy; subst hy
      simp only [Rep] at ra rb
      obtain ⟨a', vs, n, rfl, ga, r1⟩ := ra; obtain ⟨b', ws, k, rfl, gb, r2⟩ := rb
      split at e
      · cases e
      · rename_i q
        obtain ⟨hl, rfl⟩ := lenOk_some e
        have e1 := r1.length; have e2 := r2.length
        rw [List.length_append] at hl
        rw [Array.length_toList] at e1 e2
        rw [Bool.or_eq_true, not_or] at q
        refine P.add_tuple (hG _ _ ga) (hG _ _ gb) ?_ ?_ ?_ ?_
        · intro z; apply q.1; rw [Array.isEmpty_iff_size_eq_zero] at z; rw [List.isEmpty_iff_length_eq_zero]; omega
        · intro z; apply q.2; rw [Array.isEmpty_iff_size_eq_zero] at z; rw [List.isEmpty_iff_length_eq_zero]; omega
        · refine ⟨_, ExtE.push (o := tupO (vs ++ ws) 0) (tk := s.toks) hG rfl, ?_⟩
          simp only [Rep]
          exact ⟨_, _, _, rfl, PH.put_self _ _ _, by rw [Array.toList_append]; exact (r1.append r2).mono (ExtE.push (o := tupO (vs ++ ws) 0) (tk := s.toks) hG rfl).le⟩
        · rw [e1, e2]
          exact Nat.le_trans hl big_line
    | _ => cases e
  | sub => cases a with
    | int x =>
      obtain ⟨y, hy, k_⟩ := bsome e
      clear e; have e := k_; clear k_
      have hy := asI_inv hy; subst hy
      simp only [Rep] at ra rb; obtain ⟨t, rfl⟩ := ra; obtain ⟨u, rfl⟩ := rb; cases e
      exact sub_int (ends_int hG)
    | bool x =>
      obtain ⟨y, hy, k_⟩ := bsome e
      clear e; have e := k_; clear k_
      have hy := asB_inv hy; subst hy
      simp only [Rep] at ra rb; subst ra rb; cases e
      exact sub_bool (ends_int hG)
    | _ => cases e
  | mul => cases a with
    | int x =>
      obtain ⟨y, hy, k_⟩ := bsome e
      clear e; have e := k_; clear k_
      have hy := asI_inv hy; subst hy
      simp only [Rep] at ra rb; obtain ⟨t, rfl⟩ := ra; obtain ⟨u, rfl⟩ := rb
      obtain ⟨q, e⟩ := isome e
      cases e; exact mul_int (ends_int hG) (mulOk_of q)
    | list x =>
      obtain ⟨y, hy, k_⟩ := bsome e
      clear e; obtain ⟨z, hz, e⟩ := bsome k_
      clear k_
      have hy := asI_inv hy; subst hy; have hz := oneD_inv hz; subst hz
      simp only [Rep] at ra rb
      obtain ⟨a', vs, n, rfl, ga, r1⟩ := ra; obtain ⟨u, rfl⟩ := rb
      obtain ⟨q, e⟩ := isome e
      cases e
      have e1 := r1.length
      simp only [RepL] at r1
      refine bC fun z_ => ?_
      (obtain ⟨v, r, e2, r3, e3⟩ := r1) <;> refine z_ ?_ <;> clear z_
      rw [e3] at e2
      refine list_mul (hG _ _ ga) q.1 q.2 (by rw [Array.length_toList] at e1; exact e1) ?_
      refine ⟨_, ExtE.push (o := lstO _ 0) (tk := s.toks) hG rfl, ?_⟩
      simp only [Rep]
      refine ⟨_, _, _, rfl, PH.put_self _ _ _, ?_⟩
      rw [foldl_rep _ v e2]
      exact RepL.replicate (r3.mono (ExtE.push (o := lstO _ 0) (tk := s.toks) hG rfl).le) _
    | _ => cases e
  | fdiv =>
    obtain ⟨x, hx, k_⟩ := bsome e
    clear e; obtain ⟨y, hy, e⟩ := bsome k_
    clear k_
    have hx := asI_inv hx; subst hx; have hy := asI_inv hy; subst hy
    simp only [Rep] at ra rb; obtain ⟨t, rfl⟩ := ra; obtain ⟨u, rfl⟩ := rb
    obtain ⟨q, e⟩ := isome e
    cases e; exact floordiv_int (hp := Or.inl (PyProof.noPylong_small (by omega))) (by omega) (ends_int hG)
  | mod =>
    obtain ⟨x, hx, k_⟩ := bsome e
    clear e; obtain ⟨y, hy, e⟩ := bsome k_
    clear k_
    have hx := asI_inv hx; subst hx; have hy := asI_inv hy; subst hy
    simp only [Rep] at ra rb; obtain ⟨t, rfl⟩ := ra; obtain ⟨u, rfl⟩ := rb
    obtain ⟨q, e⟩ := isome e
    cases e; exact mod_int' (Int.ne_of_gt q.1) (ends_int hG)
  | pow =>
    obtain ⟨x, hx, k_⟩ := bsome e
    clear e; obtain ⟨y, hy, e⟩ := bsome k_
    clear k_
    have hx := asI_inv hx; subst hx; have hy := asI_inv hy; subst hy
    simp only [Rep] at ra rb; obtain ⟨t, rfl⟩ := ra; obtain ⟨u, rfl⟩ := rb
    obtain ⟨q, e⟩ := isome e
    cases e
    exact pow_int_small q.1 (by omega) q.2.2 (ends_int hG)
end
section
variable {s : Shared} {G : PH}
theorem RepL.nil_iff {vs : List Value} (r : RepL G [] vs) : vs = [] := by simpa only [RepL] using r
theorem RepL.cons_iff {d : D} {ds : List D} {vs : List Value} (r : RepL G (d :: ds) vs) : ∃ v r', vs = v :: r' ∧ Rep G d v ∧ RepL G ds r' := by simpa only [RepL] using r
end
end Mine
end

/- part E4 -/
section
open PySem PySem.W PyProof.Rows PySem.Calls PySem.Spec PyProof.V
namespace Mine
theorem IntEntries.fn : ∀ {es : List DictEntry} {a b : List (Int × Value)}, IntEntries es a → IntEntries es b → a = b
  | [], [], [], _, _ => rfl
  | [], _ :: _, _, h, _ => h.elim
  | [], [], _ :: _, _, h => h.elim
  | _ :: _, [], _, h, _ => h.elim
  | _ :: _, _ :: _, [], _, h => h.elim
  | e :: es, (k, v) :: a, (k', v') :: b, ⟨⟨t, h1⟩, _, h3, h4⟩, ⟨⟨t', g1⟩, _, g3, g4⟩ => by
    rw [h1] at g1; cases g1
    rw [h3] at g3; cases g3
    rw [IntEntries.fn h4 g4]
theorem IntDict.fn {o : Obj} {a b : List (Int × Value)} (x : IntDict o a) (y : IntDict o b) : a = b := by
  refine bC fun z_ => ?_
  (obtain ⟨es, ep, _, d, e, _⟩ := x) <;> refine z_ ?_ <;> clear z_
  refine bC fun z_ => ?_
  (obtain ⟨es', ep', _, d', e', _⟩ := y) <;> refine z_ ?_ <;> clear z_
  rw [d] at d'; cases d'
  exact e.fn e'
theorem IntEntries.pairs {prog : Program} {w : World} : ∀ {es : List DictEntry} {a : List (Int × Value)}, IntEntries es a → Pairs (intKind prog w) es a
  | [], [], _ => .nil
  | [], _ :: _, h => h.elim
  | _ :: _, [], h => h.elim
  | e :: es, (k, v) :: a, ⟨⟨t, h1⟩, _, h3, h4⟩ => .cons (by rw [h1]; exact beq_self_eq_true k) h3 h4.pairs
theorem IntEntries.keys {prog : Program} {w : World} : ∀ {es : List DictEntry} {a : List (Int × Value)}, IntEntries es a → ∀ e ∈ es, ∃ k, (intKind prog w).is k e.key = true ∧ e.hash = (intKind prog w).hash k
  | [], [], _, _, h => nomatch h
  | [], _ :: _, h, _, _ => h.elim
  | _ :: _, [], h, _, _ => h.elim
  | e :: es, (k, v) :: a, ⟨⟨t, h1⟩, h2, h3, h4⟩, e', h => by
    cases h with
    | head => exact ⟨k, by rw [h1]; exact beq_self_eq_true k, h2⟩
    | tail _ m => exact h4.keys e' m
theorem IntDict.at {prog : Program} {w : World} {h : Heap} {a : Addr} {o : Obj} {kvs : List (Int × Value)} (ho : h.get? a = some o) (x : IntDict o kvs) : h.DictOf (intKind prog w) a kvs := by
  refine bC fun z_ => ?_
  (obtain ⟨es, ep, d, e, i, n⟩ := x) <;> refine z_ ?_ <;> clear z_
  exact ⟨o, es, ep, ho, d, e, fun e he => i.keys e (Array.mem_toList_iff.mpr he), i.pairs, n⟩
section
variable {G : PH}
theorem RepM.keys : ∀ {l : List (Int × D)} {kvs : List (Int × Value)}, RepM G l kvs → kvs.map (·.1) = l.map (·.1)
  | [], _, x => by simp only [RepM] at x; rw [x]; rfl
  | (k, d) :: r, _, x => by
    simp only [RepM] at x
    refine bC fun z_ => ?_
    (obtain ⟨v, r', rfl, _, b⟩ := x) <;> refine z_ ?_ <;> clear z_
    rw [List.map_cons, List.map_cons, RepM.keys b]
theorem RepM.length {l : List (Int × D)} {kvs : List (Int × Value)} (x : RepM G l kvs) : kvs.length = l.length := by
  have := congrArg List.length x.keys
  simpa using this
theorem RepM.find {k : Int} : ∀ {l : List (Int × D)} {kvs : List (Int × Value)}, RepM G l kvs → (∀ p, l.find? (fun p => decide (p.1 = k)) = some p → ∃ v, kvs.find? (fun p => decide (p.1 = k)) = some (k, v) ∧ Rep G p.2 v ∧ p.1 = k) ∧ (l.find? (fun p => decide (p.1 = k)) = none → kvs.find? (fun p => decide (p.1 = k)) = none)
  | [], _, x => by simp only [RepM] at x; rw [x]; exact ⟨fun _ h => by simp at h, fun _ => rfl⟩
  | (k', d) :: r, _, x => by
    simp only [RepM] at x
    refine bC fun z_ => ?_
    (obtain ⟨v, r', rfl, a, b⟩ := x) <;> refine z_ ?_ <;> clear z_
    by_cases q : k' = k
    · subst q
      simp only [List.find?_cons, decide_true, Option.some.injEq]
      exact ⟨fun p h => by subst h; exact ⟨v, rfl, a, rfl⟩, fun h => by cases h⟩
    · simp only [List.find?_cons, q, decide_false]
      exact RepM.find b
/- the same value stands for equal data -/
theorem eqS_same {g : Option (D → D → Option Bool)} (hg : ∀ f, g = some f → ∀ {d d' : D} {v : Value} {b : Bool}, Rep G d v → Rep G d' v → f d d' = some b → b = true) {d d' : D} {v : Value} {b : Bool} (r : Rep G d v) (r' : Rep G d' v) (e : eqS g d d' = some b) : b = true := by
  have LL : ∀ (f : D → D → Option Bool), (∀ {d d' : D} {v : Value} {b : Bool}, Rep G d v → Rep G d' v → f d d' = some b → b = true) →
      ∀ {l l' : List D} {vs : List Value} {b : Bool}, RepL G l vs → RepL G l' vs → eqqL f l l' = some b → b = true := by
    intro f hf l
    induction l with
    | nil =>
      intro l' vs b r r' e
      have := r.nil_iff; subst this
      cases l' with
      | nil => exact (Option.some.inj e).symm
      | cons d' ds' => obtain ⟨v, q, z, _⟩ := r'.cons_iff; cases z
    | cons d ds ih =>
      intro l' vs b r r' e
      refine bC fun z_ => ?_
      (obtain ⟨v, q, rfl, r1, r2⟩ := r.cons_iff) <;> refine z_ ?_ <;> clear z_
      cases l' with
      | nil => have := r'.nil_iff; cases this
      | cons d' ds' =>
        refine bC fun z_ => ?_
        (obtain ⟨v', q', z, r1', r2'⟩ := r'.cons_iff) <;> refine z_ ?_ <;> clear z_
        cases z
        obtain ⟨x, ex, k_⟩ := bsome e
        clear e; obtain ⟨y, ey, e⟩ := bsome k_
        clear k_
        cases e
        rw [hf r1 r1' ex, ih r2 r2' ey]; rfl
  have MM : ∀ (f : D → D → Option Bool), (∀ {d d' : D} {v : Value} {b : Bool}, Rep G d v → Rep G d' v → f d d' = some b → b = true) →
      ∀ {m : List (Int × D)} {kvs : List (Int × Value)}, RepM G m kvs → (kvs.map (·.1)).Nodup → ∀ {l : List (Int × D)} {ks : List (Int × Value)} {b : Bool}, RepM G l ks → (∀ p ∈ ks, p ∈ kvs) → eqqM f l m = some b → b = true := by
    intro f hf m kvs rm nd l
    induction l with
    | nil => intro ks b r _ e; exact (Option.some.inj e).symm
    | cons p ds ih =>
      obtain ⟨k, d⟩ := p
      intro ks b r sub e
      simp only [RepM] at r
      refine bC fun z_ => ?_
      (obtain ⟨v, r', rfl, r1, r2⟩ := r) <;> refine z_ ?_ <;> clear z_
      obtain ⟨x, ex, k_⟩ := bsome e
      clear e; obtain ⟨y, ey, e⟩ := bsome k_
      clear k_
      cases e
      have hy := ih r2 (fun p hp => sub p (.tail _ hp)) ey
      have hx : x = true := by
        have hmem := sub (k, v) (.head _)
        have hf' : kvs.find? (fun p => decide (p.1 = k)) = some (k, v) := by
          cases q : kvs.find? (fun p => decide (p.1 = k)) with
          | none => have := List.find?_eq_none.mp q (k, v) hmem; simp at this
          | some p =>
            have h1 := List.mem_of_find?_eq_some q
            have h2 := List.find?_some q
            simp only [decide_eq_true_eq] at h2
            obtain ⟨k', v'⟩ := p
            dsimp only at h2; subst h2
            congr 2
            have : ∀ (L : List (Int × Value)), (L.map (·.1)).Nodup → (k', v') ∈ L → (k', v) ∈ L → v' = v := by
              intro L
              induction L with
              | nil => intro _ h; cases h
              | cons p L ih =>
                intro hn a b
                rw [List.map_cons, List.nodup_cons] at hn
                cases a with
                | head => cases b with
                  | head => rfl
                  | tail _ b => exact absurd (List.mem_map_of_mem b) hn.1
                | tail _ a => cases b with
                  | head => exact absurd (List.mem_map_of_mem a) hn.1
                  | tail _ b => exact ih hn.2 a b
            exact this kvs nd h1 hmem
        obtain ⟨F1, F2⟩ := RepM.find (k := k) rm
        split at ex
        · rename_i p hp
          refine bC fun z_ => ?_
          (obtain ⟨v', hv', rv', _⟩ := F1 p hp) <;> refine z_ ?_ <;> clear z_
          rw [hf'] at hv'; cases hv'
          exact hf r1 rv' ex
        · rename_i hp
          rw [F2 hp] at hf'; cases hf'
      rw [hx, hy]; rfl
  cases d with
  | bool x =>
    obtain ⟨y, hy, k_⟩ := bsome e
    clear e; have hy := asB_inv hy; subst hy
    simp only [Rep] at r r'; cases k_; subst r; cases r'; exact beq_self_eq_true _
  | int x =>
    obtain ⟨y, hy, k_⟩ := bsome e
    clear e; have hy := asI_inv hy; subst hy
    simp only [Rep] at r r'; cases k_; obtain ⟨t, rfl⟩ := r; obtain ⟨u, h⟩ := r'; cases h; exact decide_eq_true rfl
  | str x =>
    obtain ⟨y, hy, k_⟩ := bsome e
    clear e; have hy := asS_inv hy; subst hy
    simp only [Rep] at r r'; cases k_; obtain ⟨t, rfl⟩ := r; obtain ⟨u, h⟩ := r'; cases h; exact decide_eq_true rfl
  | tup x =>
    obtain ⟨y, hy, k_⟩ := bsome e
    clear e; obtain ⟨f, hf, e⟩ := bsome k_
    clear k_; have hy := asT_inv hy; subst hy
    simp only [Rep] at r r'
    refine bC fun z_ => ?_
    (obtain ⟨a, vs, k, rfl, g, q⟩ := r) <;> refine z_ ?_ <;> clear z_
    refine bC fun z_ => ?_
    (obtain ⟨a', vs', k', z, g', q'⟩ := r') <;> refine z_ ?_ <;> clear z_
    cases z; rw [g] at g'; cases g'
    exact LL _ (hg f hf) q q' e
  | list x =>
    obtain ⟨y, hy, k_⟩ := bsome e
    clear e; obtain ⟨f, hf, e⟩ := bsome k_
    clear k_; have hy := asL_inv hy; subst hy
    simp only [Rep] at r r'
    refine bC fun z_ => ?_
    (obtain ⟨a, vs, k, rfl, g, q⟩ := r) <;> refine z_ ?_ <;> clear z_
    refine bC fun z_ => ?_
    (obtain ⟨a', vs', k', z, g', q'⟩ := r') <;> refine z_ ?_ <;> clear z_
    cases z; rw [g] at g'; cases g'
    rw [if_pos (q.length.symm.trans q'.length)] at e
    exact LL _ (hg f hf) q q' e
  | dict x =>
    obtain ⟨y, hy, k_⟩ := bsome e
    clear e; obtain ⟨f, hf, e⟩ := bsome k_
    clear k_; have hy := asM_inv hy; subst hy
    simp only [Rep] at r r'
    refine bC fun z_ => ?_
    (obtain ⟨a, o, kvs, rfl, g, i, _, q⟩ := r) <;> refine z_ ?_ <;> clear z_
    refine bC fun z_ => ?_
    (obtain ⟨a', o', kvs', z, g', i', _, q'⟩ := r') <;> refine z_ ?_ <;> clear z_
    cases z; rw [g] at g'; cases g'
    have := i.fn i'; subst this
    rw [if_pos (q.length.symm.trans q'.length)] at e
    have nd : (kvs.map (·.1)).Nodup := by obtain ⟨_, _, _, _, _, n⟩ := i; exact n
    exact MM _ (hg f hf) q' nd q (fun _ h => h) e
  | _ => cases e
theorem eqq_same : ∀ (n : Nat) {d d' : D} {v : Value} {b : Bool}, Rep G d v → Rep G d' v → D.eqq n d d' = some b → b = true
  | 0, _, _, _, _, r, r', e => eqS_same (g := .none) (fun _ h => nomatch h) r r' e
  | n + 1, _, _, _, _, r, r', e => eqS_same (g := some (D.eqq n)) (fun f h => by cases h; exact eqq_same n) r r' e
theorem eqqL_range {f : D → D → Option Bool} : ∀ {l l' : List D} {b : Bool}, eqqL f l l' = some b →
    b = ((List.range (min l.length l'.length)).all (fun j => match l[j]?, l'[j]? with | some x, some y => (f x y).getD false | _, _ => false) && l.length == l'.length) ∧
    ∀ (j : Nat) (x y : D), l[j]? = some x → l'[j]? = some y → ∃ b, f x y = some b
  | [], [], b, e => by have e := Option.some.inj e; subst e; exact ⟨rfl, fun j x y h => by simp at h⟩
  | [], _ :: _, b, e => by have e := Option.some.inj e; subst e; exact ⟨by simp, fun j x y h => by simp at h⟩
  | _ :: _, [], b, e => by have e := Option.some.inj e; subst e; exact ⟨by simp, fun j x y _ h => by simp at h⟩
  | a :: as, c :: cs, b, e => by
    obtain ⟨x, ex, k_⟩ := bsome e
    clear e; obtain ⟨y, ey, e⟩ := bsome k_
    clear k_
    cases e
    obtain ⟨h1, h2⟩ := eqqL_range ey
    refine ⟨?_, fun j x' y' hx hy => ?_⟩
    · simp only [List.length_cons, Nat.add_min_add_right]
      rw [List.range_succ_eq_map]
      simp only [List.all_cons, List.getElem?_cons_zero, ex, Option.getD_some, List.all_map, Function.comp_def, Nat.succ_eq_add_one, List.getElem?_cons_succ]
      rw [h1, ← Bool.and_assoc]
      congr 1
      rw [Bool.eq_iff_iff]; simp only [beq_iff_eq]; omega
    · cases j with
      | zero => simp only [List.getElem?_cons_zero, Option.some.injEq] at hx hy; subst hx hy; exact ⟨_, ex⟩
      | succ j => exact h2 j x' y' (by simpa using hx) (by simpa using hy)
theorem keq_hits {A : Around} {s : Shared} {f : D → D → Option Bool} {m : List (Int × D)} {kvs : List (Int × Value)} (rm : RepM G m kvs)
    (hf : ∀ {d d' : D} {v v' : Value} {b : Bool}, Rep G d v → Rep G d' v' → f d d' = some b → SeqAt.EqAt A s v v' b) :
    ∀ {l : List (Int × D)} {ks : List (Int × Value)} {b : Bool}, RepM G l ks → eqqM f l m = some b → ∃ b', KeqHits A s kvs ks b' ∧ b' = b
  | [], ks, b, r, e => by
    simp only [RepM] at r; subst r
    have e := Option.some.inj e; subst e
    exact ⟨true, .nil, rfl⟩
  | (k, d) :: l, ks, b, r, e => by
    simp only [RepM] at r
    refine bC fun z_ => ?_
    (obtain ⟨v, r', rfl, r1, r2⟩ := r) <;> refine z_ ?_ <;> clear z_
    obtain ⟨x, ex, k_⟩ := bsome e
    clear e; obtain ⟨y, ey, e⟩ := bsome k_
    clear k_
    cases e
    refine bC fun z_ => ?_
    (obtain ⟨b', h', rfl⟩ := keq_hits rm hf r2 ey) <;> refine z_ ?_ <;> clear z_
    obtain ⟨F1, F2⟩ := RepM.find (k := k) rm
    split at ex
    · rename_i p hp
      refine bC fun z_ => ?_
      (obtain ⟨v', hv', rv', _⟩ := F1 p hp) <;> refine z_ ?_ <;> clear z_
      exact ⟨_, .hit (by unfold valueAt; rw [hv']; rfl) (hf r1 rv' ex) h', rfl⟩
    · rename_i hp
      cases ex
      exact ⟨_, .miss (by unfold valueAt; rw [F2 hp]; rfl), rfl⟩
theorem item {A : Around} {s : Shared} {f : D → D → Option Bool} {l l' : List D} {vs vs' : Array Value} {j : Nat} (q : RepL G l vs.toList) (q' : RepL G l' vs'.toList) (h1 : j < vs.size) (h2 : j < vs'.size)
    (hf : ∀ (d d' : D) (b : Bool), ∀ {v v' : Value}, Rep G d v → Rep G d' v' → f d d' = some b → SeqAt.EqAt A s v v' b) (hall : ∀ (j : Nat) (x y : D), l[j]? = some x → l'[j]? = some y → ∃ b, f x y = some b) :
    SeqAt.EqAt A s vs[j] vs'[j] (match l[j]?, l'[j]? with | some x, some y => (f x y).getD false | _, _ => false) := by
  have e1 := q.length; have e2 := q'.length
  rw [Array.length_toList] at e1 e2
  have hx : l[j]? = some (l[j]'(by omega)) := List.getElem?_eq_getElem (by omega)
  have hy : l'[j]? = some (l'[j]'(by omega)) := List.getElem?_eq_getElem (by omega)
  refine bC fun z_ => ?_
  (obtain ⟨v, hv, rv⟩ := q.get hx) <;> refine z_ ?_ <;> clear z_
  refine bC fun z_ => ?_
  (obtain ⟨v', hv', rv'⟩ := q'.get hy) <;> refine z_ ?_ <;> clear z_
  rw [Array.getElem?_toList, Array.getElem?_eq_getElem h1] at hv
  rw [Array.getElem?_toList, Array.getElem?_eq_getElem h2] at hv'
  cases hv; cases hv'
  obtain ⟨b, hb⟩ := hall j _ _ hx hy
  rw [hx, hy]
  dsimp only
  rw [hb]
  exact hf _ _ b rv rv' hb
/- what == and != say of two values, as items and by themselves -/
structure EqS (A : Around) (s : Shared) (v v' : Value) (b : Bool) : Prop where
  eq : SeqAt.EqAt A s v v' b
  rc : SeqAt.RcAt A s v v' b
  ne : SeqAt.RcNeAt A s v v' (!b)
theorem eqS_at {s : Shared} {g : Option (D → D → Option Bool)} {A : Around} (hG : ∀ a o, G a = some o → s.heap.get? a = some o) (hu : g.isSome = true → A.units + 1 < cLine)
    (hg : ∀ f, g = some f → ∀ {d d' : D} {v v' : Value} {b : Bool}, Rep G d v → Rep G d' v' → f d d' = some b → SeqAt.EqAt A.in1 s v v' b)
    (hs : ∀ {d d' : D} {v : Value} {b : Bool}, Rep G d v → Rep G d' v → eqS g d d' = some b → b = true) {d d' : D} {v v' : Value} {b : Bool} (r : Rep G d v) (r' : Rep G d' v') (e : eqS g d d' = some b) : EqS A s v v' b := by
  have both : ∀ a a', v = .ref a → v' = .ref a' → (SeqAt.RcAt A s v v' b ∧ SeqAt.RcNeAt A s v v' (!b)) → EqS A s v v' b := by
    intro a a' h h' k
    subst h h'
    refine ⟨?_, k.1, k.2⟩
    by_cases q : a = a'
    · subst q
      have := hs r r' e; subst this
      exact SeqAt.EqAt.same _
    · exact SeqAt.EqAt.of_refs q k.1
  cases d with
  | bool x =>
    obtain ⟨y, hy, k_⟩ := bsome e
    clear e both; have hy := asB_inv hy; subst hy
    simp only [Rep] at r r'; subst r r'; cases k_
    refine ⟨?_, fun _ _ _ _ h => eq_bool h, SeqAt.RcNeAt.bool_bool x y⟩
    have := keq_flat (A := A) (s := s) (Flat.bool x) (Flat.bool y)
    rwa [show PyData.eqv (.bool x) (.bool y) = (x == y) from by simp [PyData.eqv]] at this
  | int x =>
    obtain ⟨y, hy, k_⟩ := bsome e
    clear e both; have hy := asI_inv hy; subst hy
    simp only [Rep] at r r'; obtain ⟨t, rfl⟩ := r; obtain ⟨u, rfl⟩ := r'; cases k_
    have hd : (x == y) = decide (x = y) := by rw [Bool.eq_iff_iff]; simp
    refine ⟨?_, fun _ _ _ _ h => eq_int (by rw [hd]; exact h), by rw [← hd]; exact SeqAt.RcNeAt.int_int x t y u⟩
    have := keq_flat (A := A) (s := s) (Flat.int x t) (Flat.int y u)
    rwa [show PyData.eqv (.int x) (.int y) = decide (x = y) from by rw [Bool.eq_iff_iff]; simp [PyData.eqv]] at this
  | str x =>
    obtain ⟨y, hy, k_⟩ := bsome e
    clear e both; have hy := asS_inv hy; subst hy
    simp only [Rep] at r r'; obtain ⟨t, rfl⟩ := r; obtain ⟨u, rfl⟩ := r'; cases k_
    have hd : (x == y) = decide (x = y) := by rw [Bool.eq_iff_iff]; simp
    refine ⟨?_, fun _ _ _ _ h => eq_str (by rw [hd]; exact h), by rw [← hd]; exact SeqAt.RcNeAt.str_str x t y u⟩
    have := keq_flat (A := A) (s := s) (Flat.str x t) (Flat.str y u)
    rwa [show PyData.eqv (.str x) (.str y) = decide (x = y) from by rw [Bool.eq_iff_iff]; simp [PyData.eqv]] at this
  | tup x =>
    obtain ⟨y, hy, k_⟩ := bsome e
    clear e; obtain ⟨f, hf, e⟩ := bsome k_
    clear k_; have hy := asT_inv hy; subst hy
    have hu := hu (by rw [hf]; rfl)
    have ih := @hg f hf
    simp only [Rep] at r r'
    refine bC fun z_ => ?_
    (obtain ⟨a, vs, k, rfl, g, q⟩ := r) <;> refine z_ ?_ <;> clear z_
    refine bC fun z_ => ?_
    (obtain ⟨a', vs', k', rfl, g', q'⟩ := r') <;> refine z_ ?_ <;> clear z_
    refine both _ _ rfl rfl ?_
    obtain ⟨hb, hall⟩ := eqqL_range e
    have e1 := q.length; have e2 := q'.length
    rw [Array.length_toList] at e1 e2
    rw [hb, ← e1, ← e2]
    have hi := fun j h1 h2 => item (A := A.in1) (s := s) (j := j) q q' h1 h2 (fun x y b _ _ r1 r2 e => ih r1 r2 e) hall
    exact ⟨SeqAt.RcAt.tuples ⟨_, hG _ _ g, rfl, k, rfl⟩ ⟨_, hG _ _ g', rfl, k', rfl⟩ (by omega) hi, SeqAt.RcNeAt.tuples ⟨_, hG _ _ g, rfl, k, rfl⟩ ⟨_, hG _ _ g', rfl, k', rfl⟩ (by omega) hi⟩
  | list x =>
    obtain ⟨y, hy, k_⟩ := bsome e
    clear e; obtain ⟨f, hf, e⟩ := bsome k_
    clear k_; have hy := asL_inv hy; subst hy
    have hu := hu (by rw [hf]; rfl)
    have ih := @hg f hf
    simp only [Rep] at r r'
    refine bC fun z_ => ?_
    (obtain ⟨a, vs, k, rfl, g, q⟩ := r) <;> refine z_ ?_ <;> clear z_
    refine bC fun z_ => ?_
    (obtain ⟨a', vs', k', rfl, g', q'⟩ := r') <;> refine z_ ?_ <;> clear z_
    refine both _ _ rfl rfl ?_
    have e1 := q.length; have e2 := q'.length
    rw [Array.length_toList] at e1 e2
    split at e
    · rename_i hl
      obtain ⟨hb, hall⟩ := eqqL_range e
      rw [hl, Nat.min_self, beq_self_eq_true, Bool.and_true, ← e2] at hb
      have hs : vs.size = vs'.size := by omega
      rw [hb, ← hs]
      have hi := fun j h1 h2 => item (A := A.in1) (s := s) (j := j) q q' h1 h2 (fun x y b _ _ r1 r2 e => ih r1 r2 e) hall
      exact ⟨SeqAt.RcAt.lists ⟨_, hG _ _ g, rfl, k, rfl⟩ ⟨_, hG _ _ g', rfl, k', rfl⟩ hs (by omega) hi, SeqAt.RcNeAt.lists ⟨_, hG _ _ g, rfl, k, rfl⟩ ⟨_, hG _ _ g', rfl, k', rfl⟩ hs (by omega) hi⟩
    · rename_i hl
      cases e
      exact ⟨SeqAt.RcAt.lists_lengths ⟨_, hG _ _ g, rfl, k, rfl⟩ ⟨_, hG _ _ g', rfl, k', rfl⟩ (by simp only [bne_iff_ne, ne_eq]; omega) (by omega),
        SeqAt.RcNeAt.lists_lengths ⟨_, hG _ _ g, rfl, k, rfl⟩ ⟨_, hG _ _ g', rfl, k', rfl⟩ (by simp only [bne_iff_ne, ne_eq]; omega) (by omega)⟩
  | dict x =>
    obtain ⟨y, hy, k_⟩ := bsome e
    clear e; obtain ⟨f, hf, e⟩ := bsome k_
    clear k_; have hy := asM_inv hy; subst hy
    have hu := hu (by rw [hf]; rfl)
    have ih := @hg f hf
    simp only [Rep] at r r'
    refine bC fun z_ => ?_
    (obtain ⟨a, o, kvs, rfl, g, i, z, q⟩ := r) <;> refine z_ ?_ <;> clear z_
    refine bC fun z_ => ?_
    (obtain ⟨a', o', kvs', rfl, g', i', z', q'⟩ := r') <;> refine z_ ?_ <;> clear z_
    refine both _ _ rfl rfl ?_
    have e1 := q.length; have e2 := q'.length
    split at e
    · rename_i hl
      obtain ⟨b', hh, rfl⟩ := keq_hits (A := A.in1) (s := s) q' (fun r1 r2 e => ih r1 r2 e) q e
      exact ⟨fun prog w E Q hQ => keq_eq (r := b') (knd := intKind prog w) z z' (i.at (hG _ _ g)) (i'.at (hG _ _ g')) (by omega) (fun _ => hh) (by rw [e1, e2, hl, beq_self_eq_true, Bool.true_and]; exact hQ),
        fun prog w E Q hQ => keq_ne (r := b') (knd := intKind prog w) z z' (i.at (hG _ _ g)) (i'.at (hG _ _ g')) (by omega) (fun _ => hh) (by rw [e1, e2, hl, beq_self_eq_true, Bool.true_and]; exact hQ)⟩
    · rename_i hl
      cases e
      have hf : (kvs.length == kvs'.length) = false := by rw [beq_eq_false_iff_ne, e1, e2]; exact hl
      exact ⟨fun prog w E Q hQ => keq_eq (r := true) (knd := intKind prog w) z z' (i.at (hG _ _ g)) (i'.at (hG _ _ g')) (by omega) (fun h => absurd (e1.symm.trans (h.trans e2)) hl) (by rw [hf]; exact hQ),
        fun prog w E Q hQ => keq_ne (r := true) (knd := intKind prog w) z z' (i.at (hG _ _ g)) (i'.at (hG _ _ g')) (by omega) (fun h => absurd (e1.symm.trans (h.trans e2)) hl) (by rw [hf]; exact hQ)⟩
  | _ => cases e
theorem eqAt_D {s : Shared} (hG : ∀ a o, G a = some o → s.heap.get? a = some o) : ∀ (n : Nat) {A : Around} {d d' : D} {v v' : Value} {b : Bool}, A.units + n < cLine → Rep G d v → Rep G d' v' → D.eqq n d d' = some b → EqS A s v v' b
  | 0, _, _, _, _, _, _, _, r, r', e => eqS_at (g := .none) hG (fun h => nomatch h) (fun _ h => nomatch h) (eqq_same 0) r r' e
  | n + 1, A, _, _, _, _, _, hu, r, r', e => eqS_at (g := some (D.eqq n)) hG (fun _ => by omega) (fun f h => by cases h; exact fun r1 r2 e => (eqAt_D hG n (by simp only [Around.in1_units]; omega) r1 r2 e).eq) (eqq_same (n + 1)) r r' e
end
end Mine
end

/- part E5 -/
section
open PySem PySem.W PyProof.Rows PySem.Calls PySem.Spec PyProof.V
namespace Mine
section
variable {prog : Program} {w : World} {A : Around} {s : Shared} {G : PH}
/- the ints of a list -/
theorem ints_of : ∀ {l : List D} {vs : List Value} {ns : List Int}, RepL G l vs → D.ints l = some ns → IntsAre vs ns
  | [], vs, ns, r, e => by
    have := r.nil_iff; subst this
    cases e; exact .nil
  | d :: ds, vs, ns, r, e => by
    refine bC fun z => ?_
    obtain ⟨i, hi, e⟩ := bsome e
    obtain ⟨ms, e1, e2⟩ := Option.map_eq_some_iff.mp e
    obtain ⟨v, q, e3, r1, r2⟩ := r.cons_iff
    rw [asI_inv hi] at r1
    obtain ⟨t, e4⟩ := Rep.int_iff r1
    exact z (by rw [← e2, e3, e4]; exact .cons _ _ (ints_of r2 e1))
noncomputable def isI (a : Int) : Value → Bool
  | .int i _ => i == a
  | _ => false
theorem any_ints {a : Int} : ∀ {vs : List Value} {ns : List Int}, IntsAre vs ns → vs.any (isI a) = ns.contains a
  | _, _, .nil => rfl
  | _, _, .cons n t h => by
    rw [List.any_cons, any_ints h, List.contains_cons]
    congr 1
    show (n == a) = (a == n)
    exact BEq.comm
theorem eq_ints {a : Int} {u : Tok} : ∀ {vs : List Value} {ns : List Int}, IntsAre vs ns → ∀ y ∈ vs, SeqAt.EqAt A s y (.int a u) (isI a y)
  | _, _, .nil, _, h => nomatch h
  | _, _, .cons n t h, y, hy => by
    cases hy with
    | head =>
      have := keq_flat (A := A) (s := s) (Flat.int n t) (Flat.int a u)
      have e : PyData.eqv (.int n) (.int a) = isI a (.int n t) := by unfold PyData.eqv; rfl
      rwa [e] at this
    | tail _ m => exact eq_ints h y m
theorem cmpD_ok {op : CO} {a b : D} {va vb : Value} {q : Bool} {Q : Value → Shared → Prop} {E : Value → Shared → Prop} (hA : Room A 1) (hG : ∀ a o, G a = some o → s.heap.get? a = some o) (ra : Rep G a va) (rb : Rep G b vb)
    (e : cmpD op a b = some q) (h : Q (.bool q) s) : wpAny (model prog w) A (compareOp op.op va vb) Q E s := by
  have hu : A.units + 200 < cLine := by have := hA.units; omega
  cases op with
  | lt =>
    obtain ⟨x, hx, k_⟩ := bsome e
    clear e; obtain ⟨y, hy, e⟩ := bsome k_
    clear k_
    have hx := asI_inv hx; subst hx; have hy := asI_inv hy; subst hy
    simp only [Rep] at ra rb; obtain ⟨t, rfl⟩ := ra; obtain ⟨u, rfl⟩ := rb; cases e; exact lt_int h
  | le =>
    obtain ⟨x, hx, k_⟩ := bsome e
    clear e; obtain ⟨y, hy, e⟩ := bsome k_
    clear k_
    have hx := asI_inv hx; subst hx; have hy := asI_inv hy; subst hy
    simp only [Rep] at ra rb; obtain ⟨t, rfl⟩ := ra; obtain ⟨u, rfl⟩ := rb; cases e; exact le_int h
  | gt =>
    obtain ⟨x, hx, k_⟩ := bsome e
    clear e; obtain ⟨y, hy, e⟩ := bsome k_
    clear k_
    have hx := asI_inv hx; subst hx; have hy := asI_inv hy; subst hy
    simp only [Rep] at ra rb; obtain ⟨t, rfl⟩ := ra; obtain ⟨u, rfl⟩ := rb; cases e; exact gt_int h
  | ge =>
    obtain ⟨x, hx, k_⟩ := bsome e
    clear e; obtain ⟨y, hy, e⟩ := bsome k_
    clear k_
    have hx := asI_inv hx; subst hx; have hy := asI_inv hy; subst hy
    simp only [Rep] at ra rb; obtain ⟨t, rfl⟩ := ra; obtain ⟨u, rfl⟩ := rb; cases e; exact ge_int h
  | eq => exact (eqAt_D hG 8 (by omega) ra rb e).rc prog w E Q h
  | ne =>
    change (D.eqq 8 a b).map (!·) = some q at e
    rw [Option.map_eq_some_iff] at e
    refine bC fun z_ => ?_
    (obtain ⟨c, e, rfl⟩ := e) <;> refine z_ ?_ <;> clear z_
    exact (eqAt_D hG 8 (by omega) ra rb e).ne prog w E Q h
  | is =>
    obtain ⟨x, hx, k_⟩ := bsome e
    clear e; obtain ⟨y, hy, e⟩ := bsome k_
    clear k_
    have hx := asB_inv hx; subst hx; have hy := asB_inv hy; subst hy
    simp only [Rep] at ra rb; subst ra rb; cases e; exact is_bool h
  | isNot =>
    obtain ⟨x, hx, k_⟩ := bsome e
    clear e; obtain ⟨y, hy, e⟩ := bsome k_
    clear k_
    have hx := asB_inv hx; subst hx; have hy := asB_inv hy; subst hy
    simp only [Rep] at ra rb; subst ra rb; cases e; exact isnot_bool h
theorem memD_ok {n : Bool} {a b : D} {va vb : Value} {q : Bool} {Q : Value → Shared → Prop} {E : Value → Shared → Prop} (ra : Rep G a va) (rb : RepTop s.heap G b vb)
    (e : memD n a b = some q) (h : ∀ tk, Q (.bool q) { s with toks := tk }) : wpAny (model prog w) A (compareOp (if n then .NotIn else .In) va vb) Q E s := by
  have h0 : Q (.bool q) s := h s.toks
  cases n with
  | false =>
    obtain ⟨ki, hi, k_⟩ := bsome e
    clear e; obtain ⟨m, hm, e⟩ := bsome k_
    clear k_
    have hi := asI_inv hi; subst hi; have hm := asM_inv hm; subst hm
    simp only [Rep] at ra; obtain ⟨t, rfl⟩ := ra
    refine bC fun z_ => ?_
    (obtain ⟨a', o, kvs, rfl, g, i, z, r⟩ := rb) <;> refine z_ ?_ <;> clear z_
    cases e
    refine wpAny_in_of (knd := intKind prog w) (beq_self_eq_true _) z (i.at g).mapOf ?_
    have hk := r.keys
    have : (valueAt kvs ki).isSome = ((m.map (·.1)).contains ki) := by
      rw [← hk]
      unfold valueAt
      rw [Option.isSome_map, Bool.eq_iff_iff, List.find?_isSome, List.contains_iff_mem, List.mem_map]
      constructor
      · rintro ⟨x, hx, hp⟩; exact ⟨x, hx, by simpa using hp⟩
      · rintro ⟨x, hx, hp⟩; exact ⟨x, hx, by simpa using hp⟩
    rw [this]
    exact h _
  | true => cases a with
    | str x =>
      obtain ⟨y, hy, k_⟩ := bsome e
      clear e; have e := k_; clear k_
      have hy := asS_inv hy; subst hy
      simp only [Rep, RepTop] at ra rb; obtain ⟨t, rfl⟩ := ra; obtain ⟨u, rfl⟩ := rb; cases e
      refine notIn_str ?_
      exact h0
    | int x =>
      obtain ⟨y, hy, k_⟩ := bsome e
      clear e; have e := k_; clear k_
      have hy := asL_inv hy; subst hy
      simp only [Rep] at ra; obtain ⟨t, rfl⟩ := ra
      refine bC fun z_ => ?_
      (obtain ⟨a', vs, n, rfl, g, r⟩ := rb) <;> refine z_ ?_ <;> clear z_
      rw [Option.map_eq_some_iff] at e
      refine bC fun z_ => ?_
      (obtain ⟨ns, e, rfl⟩ := e) <;> refine z_ ?_ <;> clear z_
      have hi := ints_of r e
      refine SeqAt.notIn_listAt (isI _) ⟨_, g, rfl, n, rfl⟩ (fun y hy => eq_ints hi y (Array.mem_toList_iff.mpr hy)) ?_
      rw [← Array.any_toList, any_ints hi]
      exact h0
    | _ => cases e
end
theorem Room.le {A : Around} {m n : Nat} (h : Room A n) (hm : m ≤ n) : Room A m := ⟨h.hand, by have := h.depth; have : 20 * m ≤ 20 * n := Nat.mul_le_mul_left _ hm; omega, by have := h.units; have : 200 * m ≤ 200 * n := Nat.mul_le_mul_left _ hm; omega⟩
noncomputable def notMarked (op : CmpOp) (e : Expr) : Bool := !behindInMarks op e
section
variable {U : U0} {l : Nat} {C : Cx} {Z : Zz}
theorem Snd.bin {a b : Expr} {op : BO} {x y : X} {pos : Pos} {o : Operator} (h1 : Snd U l C Z a x) (h2 : Snd U l C Z b y) (ho : o = op.op) : Snd U l C Z (.BinOp a o b pos) (.bin op x y) := by
  intro A env s G r d hE hR hB R e
  subst ho
  obtain ⟨d1, e1, k_⟩ := bsome e
  clear e; obtain ⟨d2, e2, e⟩ := bsome k_
  clear k_
  refine wpAny_BinOp ((h1 A env s G r d1 hE hR hB R e1).use fun v s' G' x1 r1 => (h2 A env s' G' r d2 hE hR (hB.keeps x1.keep) (R.ext x1) e2).use fun v' s'' G'' x2 r2 => ?_)
  exact OkV.pre (x1.trans x2) (binD_ok hR.hand x2.sub (r1.mono x2.le) r2 e)
theorem Snd.neg {a : Expr} {x : X} {pos : Pos} (h : Snd U l C Z a x) : Snd U l C Z (.UnaryOp .USub a pos) (.neg x) := by
  intro A env s G r d hE hR hB R e
  obtain ⟨d1, e1, e⟩ := bsome e
  refine wpAny_UnaryOp ((h A env s G r d1 hE hR hB R e1).use fun v s' G' x1 r1 => ?_)
  obtain ⟨i, hi, e⟩ := bsome e
  rw [asI_inv hi] at r1; cases e
  obtain ⟨t, rfl⟩ := Rep.int_iff r1
  exact OkV.pre x1 (neg_int (ends_int x1.sub))
theorem OkB.use {prog : Program} {w : World} {A : Around} {s : Shared} {G : PH} {t : Sem Bool} {b : Bool} {Q : Bool → Shared → Prop} {E : Value → Shared → Prop} (h : OkB prog w A t s G b)
    (k : ∀ s' G', ExtE s s' G G' → Q b s') : wpAny (model prog w) A t Q E s :=
  wpAny_mono h (fun v s' ⟨e, G', x⟩ => e ▸ k s' G' x) fun _ _ q => q.elim
theorem OkB.pre {prog : Program} {w : World} {A : Around} {s s₀ : Shared} {G G₀ : PH} {t : Sem Bool} {b : Bool} (x : ExtE s₀ s G₀ G) (h : OkB prog w A t s G b) :
    wpAny (model prog w) A t (fun v s' => v = b ∧ ∃ G', ExtE s₀ s' G₀ G') (fun _ _ => False) s :=
  wpAny_mono h (fun v s' ⟨e, G', y⟩ => ⟨e, G', x.trans y⟩) fun _ _ q => q
theorem Snd.ite {c a b : Expr} {x : B} {y z : X} {pos : Pos} (h1 : SndB U l C Z c x) (h2 : Snd U l C Z a y) (h3 : Snd U l C Z b z) : Snd U l C Z (.IfExp c a b pos) (.ite x y z) := by
  intro A env s G r d hE hR hB R e
  obtain ⟨q, e1, e⟩ := bsome e
  refine wpAny_IfExp ((h1 A env s G r q hE hR hB R e1).use fun s' G' x1 => ?_)
  split at e
  · rw [if_pos ‹_›]; exact OkV.pre x1 (h2 A env s' G' r d hE hR (hB.keeps x1.keep) (R.ext x1) e)
  · rw [if_neg ‹_›]; exact OkV.pre x1 (h3 A env s' G' r d hE hR (hB.keeps x1.keep) (R.ext x1) e)
theorem ExtE.toks {s : Shared} {G : PH} {tk : Nat} (hG : ∀ a o, G a = some o → s.heap.get? a = some o) : ExtE s { s with toks := tk } G G := ⟨.refl _, PH.le.refl _, hG, fun _ _ => rfl, rfl, id⟩
theorem cmp_rule {a b : Expr} {op : CO} {x y : X} (h1 : Snd U l C Z a x) (h2 : Snd U l C Z b y) (hl : 1 ≤ l)
    {A : Around} {env : Env} {s : Shared} {G : PH} {r : Rho} {z : Bool} {d1 d2 : D} (hE : EnvOk Z env) (hR : Room A l) (hB : U.Base s.heap) (R : SRel Z env r G s.heap) (e1 : ev C r x = some d1) (e2 : ev C r y = some d2) (e : cmpD op d1 d2 = some z)
    {Q : Value → Shared → Prop} {E : Value → Shared → Prop} (k : ∀ s' G', ExtE s s' G G' → Q (.bool z) s') :
    wpAny (model U.prog U.w) A (eval a env) (fun v s₁ => wpAny (model U.prog U.w) A (eval b env) (fun v' s₂ => wpAny (model U.prog U.w) A (compareOp op.op v v') Q E s₂) E s₁) E s :=
  (h1 A env s G r d1 hE hR hB R e1).use fun _ _ _ x1 r1 => (h2 A env _ _ r d2 hE hR (hB.keeps x1.keep) (R.ext x1) e2).use fun _ s'' G'' x2 r2 =>
    cmpD_ok (hR.le hl) x2.sub (r1.mono x2.le) r2 e (k s'' G'' (x1.trans x2))
theorem mem_rule {a b : Expr} {n : Bool} {x : X} {y : O} (h1 : Snd U l C Z a x) (h2 : SndO U l C Z b y)
    {A : Around} {env : Env} {s : Shared} {G : PH} {r : Rho} {z : Bool} {d1 d2 : D} (hE : EnvOk Z env) (hR : Room A l) (hB : U.Base s.heap) (R : SRel Z env r G s.heap) (e1 : ev C r x = some d1) (e2 : evO C r y = some d2) (e : memD n d1 d2 = some z)
    {Q : Value → Shared → Prop} {E : Value → Shared → Prop} (k : ∀ s' G', ExtE s s' G G' → Q (.bool z) s') :
    wpAny (model U.prog U.w) A (eval a env) (fun v s₁ => wpAny (model U.prog U.w) A (eval b env) (fun v' s₂ => wpAny (model U.prog U.w) A (compareOp (if n then .NotIn else .In) v v') Q E s₂) E s₁) E s :=
  (h1 A env s G r d1 hE hR hB R e1).use fun _ _ _ x1 r1 => wpAny_mono (h2 A env _ _ r d2 hE hR (hB.keeps x1.keep) (R.ext x1) e2) (fun _ s'' ⟨G'', x2, r2⟩ =>
    memD_ok (r1.mono x2.le) r2 e fun _ => k _ G'' ((x1.trans x2).trans (ExtE.toks x2.sub))) fun _ _ f => f.elim
theorem Snd.cmp {a b : Expr} {op : CO} {x y : X} {o : CmpOp} {pos : Pos} (h1 : Snd U l C Z a x) (h2 : Snd U l C Z b y) (hl : 1 ≤ l) (ho : o = op.op) (hm : behindInMarks o b = false) : Snd U l C Z (.Compare a [o] [b] pos) (.cmp op x y) := by
  intro A env s G r d hE hR hB R e
  subst ho
  obtain ⟨d1, e1, k_⟩ := bsome e
  obtain ⟨d2, e2, k_⟩ := bsome k_
  obtain ⟨z, e3, e⟩ := bsome k_
  cases e
  exact wpAny_Compare1 (cmp_rule h1 h2 hl hE hR hB R e1 e2 e3 fun s' G' x => ⟨G', x, by simp only [Rep]⟩) hm
theorem SndB.cmp {a b : Expr} {op : CO} {x y : X} {o : CmpOp} {pos : Pos} (h1 : Snd U l C Z a x) (h2 : Snd U l C Z b y) (hl : 1 ≤ l) (ho : o = op.op) (hm : behindInMarks o b = false) : SndB U l C Z (.Compare a [o] [b] pos) (.plain (.cmp op x y)) := by
  intro A env s G r d hE hR hB R e
  subst ho
  obtain ⟨d', j_, e'⟩ := bsome e
  obtain ⟨d1, e1, k_⟩ := bsome j_
  obtain ⟨d2, e2, k_⟩ := bsome k_
  obtain ⟨z, e3, e⟩ := bsome k_
  cases e; cases e'
  exact wpAny_isTrue_Compare1 (cmp_rule h1 h2 hl hE hR hB R e1 e2 e3 fun s' G' x => wpAny_truthy_bool ⟨rfl, G', x⟩) hm
theorem Snd.mem {a b : Expr} {n : Bool} {x : X} {y : O} {o : CmpOp} {pos : Pos} (h1 : Snd U l C Z a x) (h2 : SndO U l C Z b y) (ho : o = if n then .NotIn else .In) (hm : behindInMarks o b = false) : Snd U l C Z (.Compare a [o] [b] pos) (.mem n x y) := by
  intro A env s G r d hE hR hB R e
  subst ho
  obtain ⟨d1, e1, k_⟩ := bsome e
  obtain ⟨d2, e2, k_⟩ := bsome k_
  obtain ⟨z, e3, e⟩ := bsome k_
  cases e
  exact wpAny_Compare1 (mem_rule h1 h2 hE hR hB R e1 e2 e3 fun s' G' x => ⟨G', x, by simp only [Rep]⟩) hm
theorem SndB.mem {a b : Expr} {n : Bool} {x : X} {y : O} {o : CmpOp} {pos : Pos} (h1 : Snd U l C Z a x) (h2 : SndO U l C Z b y) (ho : o = if n then .NotIn else .In) (hm : behindInMarks o b = false) : SndB U l C Z (.Compare a [o] [b] pos) (.plain (.mem n x y)) := by
  intro A env s G r d hE hR hB R e
  subst ho
  obtain ⟨d', j_, e'⟩ := bsome e
  obtain ⟨d1, e1, k_⟩ := bsome j_
  obtain ⟨d2, e2, k_⟩ := bsome k_
  obtain ⟨z, e3, e⟩ := bsome k_
  cases e; cases e'
  exact wpAny_isTrue_Compare1 (mem_rule h1 h2 hE hR hB R e1 e2 e3 fun s' G' x => wpAny_truthy_bool ⟨rfl, G', x⟩) hm
theorem SndB.not {a : Expr} {x : B} {pos : Pos} (h : SndB U l C Z a x) : SndB U l C Z (.UnaryOp .Not a pos) (.not x) := by
  intro A env s G r b hE hR hB R e
  obtain ⟨q, e1, e⟩ := bsome e
  cases e
  exact wpAny_isTrue_Not ((h A env s G r q hE hR hB R e1).use fun s' G' x => ⟨rfl, G', x⟩)
/- the tests of an and, of an or -/
noncomputable def SndA (U : U0) (l : Nat) (C : Cx) (Z : Zz) (op : BoolOp) (es : List Expr) (x : B) : Prop :=
  ∀ (A : Around) (env : Env) (s : Shared) (G : PH) (r : Rho) (b : Bool), EnvOk Z env → Room A l → U.Base s.heap → SRel Z env r G s.heap → evB C r x = some b → OkB U.prog U.w A (allTrue op es env) s G b
theorem SndA.one {op : BoolOp} {e : Expr} {x : B} (h : SndB U l C Z e x) : SndA U l C Z op [e] x := by
  intro A env s G r b hE hR hB R q
  cases op with
  | And =>
    refine wpAny_allTrue_And_cons ((h A env s G r b hE hR hB R q).use fun s' G' x => ?_)
    cases b with
    | true => exact wpAny_allTrue_And_nil ⟨rfl, G', x⟩
    | false => exact ⟨rfl, G', x⟩
  | Or =>
    refine wpAny_allTrue_Or_cons ((h A env s G r b hE hR hB R q).use fun s' G' x => ?_)
    cases b with
    | true => exact ⟨rfl, G', x⟩
    | false => exact wpAny_allTrue_Or_nil ⟨rfl, G', x⟩
theorem SndA.and {e : Expr} {es : List Expr} {x y : B} (h : SndB U l C Z e x) (t : SndA U l C Z .And es y) : SndA U l C Z .And (e :: es) (.band x y) := by
  intro A env s G r b hE hR hB R q
  obtain ⟨c, e1, q⟩ := bsome q
  refine wpAny_allTrue_And_cons ((h A env s G r c hE hR hB R e1).use fun s' G' x => ?_)
  cases c with
  | true => exact OkB.pre x (t A env s' G' r b hE hR (hB.keeps x.keep) (R.ext x) q)
  | false => cases q; exact ⟨rfl, G', x⟩
theorem SndA.or {e : Expr} {es : List Expr} {x y : B} (h : SndB U l C Z e x) (t : SndA U l C Z .Or es y) : SndA U l C Z .Or (e :: es) (.bor x y) := by
  intro A env s G r b hE hR hB R q
  obtain ⟨c, e1, q⟩ := bsome q
  refine wpAny_allTrue_Or_cons ((h A env s G r c hE hR hB R e1).use fun s' G' x => ?_)
  cases c with
  | false => exact OkB.pre x (t A env s' G' r b hE hR (hB.keeps x.keep) (R.ext x) q)
  | true => cases q; exact ⟨rfl, G', x⟩
theorem SndB.all {op : BoolOp} {es : List Expr} {x : B} {pos : Pos} (h : SndA U l C Z op es x) : SndB U l C Z (.BoolOp op es pos) x := by
  intro A env s G r b hE hR hB R q
  exact wpAny_isTrue_BoolOp (h A env s G r b hE hR hB R q)
theorem truth_ok {prog : Program} {w : World} {A : Around} {s : Shared} {G : PH} {d : D} {v : Value} {b : Bool} {Q : Bool → Shared → Prop} {E : Value → Shared → Prop} (r : Rep G d v) (e : d.truth = some b) (h : ∀ tk, Q b { s with toks := tk }) : wpAny (model prog w) A (truthy v) Q E s := by
  cases d with
  | bool b' => cases e; have := Rep.bool_iff r; subst this; exact wpAny_truthy_bool (h s.toks)
  | str x =>
    obtain ⟨t, rfl⟩ := Rep.str_iff r
    obtain ⟨hx, e⟩ := isome (show (if x.length ≤ big then some (decide (x.length ≠ 0)) else .none) = some b from e)
    cases e
    have hb : big = 1000000 := rfl
    refine P.truthy_str (by omega) ?_
    rw [show ((x.length : Int) != 0) = decide (x.length ≠ 0) from by rw [Bool.eq_iff_iff]; simp]
    exact h _
  | _ => exact nope e
noncomputable def plainTest : Expr → Bool
  | .UnaryOp .Not _ _ | .BoolOp .. | .IfExp .. | .Compare .. => false
  | _ => true
theorem isTrue_plainTest {e : Expr} {env : Env} {whole : Sem Value} (h : plainTest e = true) : isTrue e env whole = (do let v ← whole; standAt e.pos; holding [v] (truthy v)) := by
  cases e <;> first | rfl | (cases h; done) | skip
  rename_i op _ _
  cases op <;> first | rfl | cases h
theorem SndB.plain {e : Expr} {x : X} (h : Snd U l C Z e x) (h1 : plainTest e = true) : SndB U l C Z e (.plain x) := by
  intro A env s G r b hE hR hB R q
  obtain ⟨d, e1, q⟩ := bsome q
  exact wpAny_isTrue_value ((h A env s G r d hE hR hB R e1).use fun v s' G' x1 r1 => truth_ok r1 q fun tk => ⟨rfl, G', x1.trans (ExtE.toks x1.sub)⟩) (isTrue_plainTest h1)
theorem Snd.band {a b : Expr} {x y : X} {pos : Pos} (h1 : Snd U l C Z a x) (h2 : Snd U l C Z b y) : Snd U l C Z (.BoolOp .And [a, b] pos) (.band x y) := by
  intro A env s G r d hE hR hB R e
  obtain ⟨d1, e1, e⟩ := bsome e
  refine wpAny_And2 ((h1 A env s G r d1 hE hR hB R e1).use fun v s' G' x1 r1 => ?_)
  obtain ⟨b', hb', e⟩ := bsome e
  rw [asB_inv hb'] at r1
  have := Rep.bool_iff r1; subst this
  cases b' with
  | true => exact wpAny_truthy_bool (OkV.pre x1 (h2 A env s' G' r d hE hR (hB.keeps x1.keep) (R.ext x1) e))
  | false => cases e; exact wpAny_truthy_bool ⟨G', x1, r1⟩
theorem Snd.bor {a b : Expr} {x y : X} {pos : Pos} (h1 : Snd U l C Z a x) (h2 : Snd U l C Z b y) : Snd U l C Z (.BoolOp .Or [a, b] pos) (.bor x y) := by
  intro A env s G r d hE hR hB R e
  obtain ⟨d1, e1, e⟩ := bsome e
  refine wpAny_Or2 ((h1 A env s G r d1 hE hR hB R e1).use fun v s' G' x1 r1 => ?_)
  obtain ⟨b', hb', e⟩ := bsome e
  rw [asB_inv hb'] at r1
  have := Rep.bool_iff r1; subst this
  cases b' with
  | true => cases e; exact wpAny_truthy_bool ⟨G', x1, r1⟩
  | false => exact wpAny_truthy_bool (OkV.pre x1 (h2 A env s' G' r d hE hR (hB.keeps x1.keep) (R.ext x1) e))
end
end Mine
end

/- part E6 -/
section
open PySem PySem.W PyProof.Rows PySem.Calls PySem.Spec PyProof.V
namespace Mine
section
variable {prog : Program} {w : World} {A : Around} {s : Shared} {G : PH}
theorem idx_seq {i : Int} {n k : Nat} (h : idxOf i n = some k) (hn : (n : Int) < 2 ^ 62) : -(2 ^ 63) ≤ i ∧ i < 2 ^ 63 ∧ seqIndex? i n = some k ∧ ((0 ≤ i ∧ i.toNat = k) ∨ (i < 0 ∧ -(n : Int) ≤ i ∧ (i + n).toNat = k)) := by
  unfold idxOf at h
  split at h
  · rename_i q; cases h
    refine ⟨by omega, by omega, ?_, .inl ⟨q.1, rfl⟩⟩
    obtain ⟨m, rfl⟩ := Int.eq_ofNat_of_zero_le q.1
    unfold seqIndex?
    simp; omega
  · obtain ⟨q, h⟩ := isome h
    cases h
    refine ⟨by omega, by omega, ?_, .inr ⟨q.1, q.2, rfl⟩⟩
    unfold seqIndex?
    have q1 := q.1
    have q2 := q.2
    simp only [q1, if_true]
    have h1 : ¬ (i + (n : Int) < 0) := by omega
    have h2 : (i + (n : Int)) < n := by omega
    simp; omega
theorem seqI_ok {l : List D} {vs : Array Value} {i : Int} {d : D} (r : RepL G l vs.toList) (e : seqI l i = some d) : ∃ k v, -(2 ^ 63) ≤ i ∧ i < 2 ^ 63 ∧ seqIndex? i vs.size = some k ∧ ((0 ≤ i ∧ i.toNat = k) ∨ (i < 0 ∧ -(vs.size : Int) ≤ i ∧ (i + vs.size).toNat = k)) ∧ vs[k]? = some v ∧ Rep G d v := by
  refine bC fun z => ?_
  obtain ⟨hb, e⟩ := isome e
  obtain ⟨k, e1, e2⟩ := bsome e
  obtain ⟨v, hv, rv⟩ := r.get e2
  have hl := r.length
  rw [Array.length_toList] at hl
  have hbig : big = 1000000 := rfl
  obtain ⟨h1, h2, h3, h4⟩ := idx_seq e1 (by omega)
  rw [← hl] at h3 h4
  rw [Array.getElem?_toList] at hv
  exact z ⟨k, v, h1, h2, h3, h4, hv, rv⟩
theorem subD_ok {a b d : D} {va vb : Value} {value slice : Expr} (rb : Rep G b vb) (ra : RepTop s.heap G a va) (hG : ∀ a o, G a = some o → s.heap.get? a = some o) (e : subD a b = some d)
    (hs : ∀ o i, subscripted slice false o i = operate [o, i] (getItem o i)) :
    OkV prog w A (subscriptTail value slice va vb) s G d := by
  obtain ⟨i, hi, e⟩ := bsome e
  rw [asI_inv hi] at rb
  obtain ⟨t, rfl⟩ := Rep.int_iff rb
  clear hi rb
  cases a with
  | list l =>
    refine bC fun z_ => ?_
    (obtain ⟨a', vs, n, rfl, g, r⟩ := ra; obtain ⟨k, v, h1, h2, h3, h4, hv, rv⟩ := seqI_ok r e) <;> refine z_ ?_ <;> clear z_
    have hIL : s.heap.IsList a' vs := ⟨_, g, rfl, n, rfl⟩
    refine tail_any hIL.typeIs slot_list_getitem.lookup ?_ (hs _ _)
    rcases h4 with ⟨h5, h6⟩ | ⟨h5, h7, h6⟩
    · exact wpAny_getItem_list hIL h5 h2 (by rw [h6]; exact hv) ⟨G, ExtE.refl hG, rv⟩
    · exact wpAny_getItem_list_neg hIL h5 h7 h1 (by rw [h6]; exact hv) ⟨G, ExtE.refl hG, rv⟩
  | tup l =>
    refine bC fun z_ => ?_
    (obtain ⟨a', vs, n, rfl, g, r⟩ := Rep.tup_iff ra; obtain ⟨k, v, h1, h2, h3, h4, hv, rv⟩ := seqI_ok r e) <;> refine z_ ?_ <;> clear z_
    have hT : s.TypeIs (.ref a') "tuple" := ⟨_, hG _ _ g, rfl⟩
    exact tail_any hT slot_tuple_getitem.lookup (P.getItem_tuple (hG _ _ g) h1 h2 h3 hv ⟨G, ExtE.refl hG, rv⟩) (hs _ _)
  | dict m =>
    refine bC fun z_ => ?_
    (obtain ⟨a', o, kvs, rfl, g, i, z, r⟩ := ra; obtain ⟨p, e1, rfl⟩ := Option.map_eq_some_iff.mp e; obtain ⟨v, hv, rv, hk⟩ := (RepM.find r).1 p e1) <;> refine z_ ?_ <;> clear z_
    have hm := (i.at (prog := prog) (w := w) g).mapOf
    refine tail_any hm.typeIs slot_dict_getitem.lookup (wpAny_getItem_of (knd := intKind prog w) (beq_self_eq_true _) hm (v := v) ?_ ⟨G, ExtE.toks hG, rv⟩) (hs _ _)
    unfold valueAt; rw [hv]; rfl
  | _ => exact nope e
end
noncomputable def notSlice : Expr → Bool
  | .Slice .. => false
  | _ => true
theorem subscripted_plain {slice : Expr} (h : notSlice slice = true) (o i : Value) : subscripted slice false o i = operate [o, i] (getItem o i) := by
  cases slice <;> first | rfl | cases h
section
variable {U : U0} {l : Nat} {C : Cx} {Z : Zz}
theorem Snd.sub {a b : Expr} {x : O} {y : X} {pos : Pos} (h1 : SndO U l C Z a x) (h2 : Snd U l C Z b y) (hs : notSlice b = true) : Snd U l C Z (.Subscript a b pos) (.sub x y) := by
  intro A env s G r d hE hR hB R e
  obtain ⟨d1, e1, k_⟩ := bsome e
  obtain ⟨d2, e2, e⟩ := bsome k_
  refine Subscript_ (wpAny_mono (h1 A env s G r d1 hE hR hB R e1) (fun v s' ⟨G', x1, r1⟩ => (h2 A env s' G' r d2 hE hR (hB.keeps x1.keep) (R.ext x1) e2).use fun v' s'' G'' x2 r2 => ?_) fun _ _ f => f)
  exact OkV.pre (x1.trans x2) (subD_ok r2 (r1.mono (R.ext x1).tab x2.keep x2.le) x2.sub e (subscripted_plain hs))
/- what the text's table says -/
noncomputable def U0.Signs (U : U0) : Prop := ∀ (A : Around) (s : Shared) (x : Str) (t : PySem.Tok) (i : Int) (Q : Value → Shared → Prop) (E : Value → Shared → Prop), (x = Str.ofString "+" ∧ i = 14) ∨ (x = Str.ofString "-" ∧ i = 15) → U.Base s.heap →
  (∀ u tk, Q (.int i u) { s with toks := tk }) → s.TypeIs (.ref 64) "dict" ∧ wpAny (model U.prog U.w) A (getItem (.ref 64) (.str x t)) Q E s
theorem Snd.tok {nm : Str} {b : Expr} {y : X} {p pos : Pos} (hT : U.Signs) (e64 : nsIn U.K mainGlobals nm = some (some (.ref 64))) (hk : Z.sc.names.lookup nm = some .globalImplicit) (hn : (nm == ("__debug__" : Str)) = false)
    (h2 : Snd U l C Z b y) (hs : notSlice b = true) : Snd U l C Z (.Subscript (.Name nm p) b pos) (.tok y) := by
  intro A env s G r d hE hR hB R e
  obtain ⟨d2, e2, e⟩ := bsome e
  refine Subscript_ (Name_function_global hE.kind (by unfold Env.kindOf; rw [hE.sc]; exact hk) (loadGlobal_global (by rw [hE.glob]; exact hB.top.g) (mg_of hB.ins hB.top.g e64) ?_) hn)
  refine (h2 A env s G r d2 hE hR hB R e2).use fun v s' G' x1 r1 => ?_
  have key : ∀ i : Int, ∀ x t, v = .str x t → ((x = Str.ofString "+" ∧ i = 14) ∨ (x = Str.ofString "-" ∧ i = 15)) → d = .int i →
      wpAny (model U.prog U.w) A (subscriptTail (.Name nm p) b (.ref 64) v) (fun v s' => ∃ G', ExtE s s' G G' ∧ Rep G' d v) (fun _ _ => False) s' := by
    intro i x t hv hx hd
    subst hv hd
    have := hT A s' x t i (fun v s' => ∃ G', ExtE s s' G G' ∧ Rep G' (.int i) v) (fun _ _ => False) hx (hB.keeps x1.keep) (fun u tk => ⟨G', x1.trans (ExtE.toks x1.sub), by simp only [Rep]; exact ⟨_, rfl⟩⟩)
    exact tail_any this.1 slot_dict_getitem.lookup this.2 (subscripted_plain hs _ _)
  cases d2 with
  | str x =>
    obtain ⟨t, rfl⟩ := Rep.str_iff r1
    replace e : (if x = Str.ofString "+" then some (D.int 14) else if x = Str.ofString "-" then some (D.int 15) else .none) = some d := e
    by_cases q : x = Str.ofString "+"
    · rw [if_pos q] at e; cases e; exact key 14 _ _ rfl (.inl ⟨q, rfl⟩) rfl
    · rw [if_neg q] at e
      obtain ⟨q, e⟩ := isome e
      cases e; exact key 15 _ _ rfl (.inr ⟨q, rfl⟩) rfl
  | _ => exact nope e
/- a call of a built-in by its name -/
noncomputable def allPlain : List Expr → Bool
  | [] => true
  | e :: es => notStar e && allPlain es
theorem plain_any {env : Env} {pos : Pos} : ∀ {es : List Expr}, allPlain es = true → (backTo pos (starEach es env)).any (·.1) = false
  | [], _ => rfl
  | e :: es, h => by
    unfold allPlain at h; rw [Bool.and_eq_true] at h
    rw [starEach_plain h.1]
    show (false || (backTo pos (starEach es env)).any (·.1)) = false
    rw [plain_any h.2]; rfl
theorem evalArgs_all {f : Value} {env : Env} {pos : Pos} {es : List Expr} {A : Around} {s : Shared} {Q : Args → Shared → Prop} {E : Value → Shared → Prop} {M : Model} (h : allPlain es = true) (hne : es ≠ [])
    (hq : wpAny M A (spliced (backTo pos (starEach es env))) (fun vs s' => Q ⟨vs, []⟩ s') E s) : wpAny M A (evalArgs f true (backTo pos (starEach es env)) []) Q E s := by
  cases es with
  | nil => exact absurd rfl hne
  | cons e es =>
    unfold allPlain at h; rw [Bool.and_eq_true] at h
    rw [starEach_plain h.1] at hq ⊢
    exact evalArgs_plain hq
structure BltIn (U : U0) (Z : Zz) (x : Str) (v : Value) : Prop where
  no : nsIn U.K mainGlobals x = some none
  boot : bootBuiltins x = some v
  name : x ≠ "__name__"
  kind : Z.sc.names.lookup x = some .globalImplicit
  dbg : (x == ("__debug__" : Str)) = false
theorem blt_name {x : Str} {v : Value} {p : Pos} {A : Around} {env : Env} {s : Shared} {Q : Value → Shared → Prop} {E : Value → Shared → Prop} (b : BltIn U Z x v) (hE : EnvOk Z env) (hB : U.Base s.heap) (h : Q v s) :
    wpAny (model U.prog U.w) A (eval (.Name x p) env) Q E s :=
  Name_function_global hE.kind (by unfold Env.kindOf; rw [hE.sc]; exact b.kind) (loadGlobal_builtin (by rw [hE.glob]; exact hB.top.g) (mg_none_of hB.ins hB.top.g b.no) (by rw [hE.blt]; exact hB.top.b) ((hB.top.builtins x b.name).trans b.boot) h) b.dbg
theorem blt_call {x : Str} {id : String} {p pos : Pos} {es : List Expr} {A : Around} {env : Env} {s : Shared} {Q : Value → Shared → Prop} {E : Value → Shared → Prop} (b : BltIn U Z x (.builtin id)) (hE : EnvOk Z env) (hB : U.Base s.heap) (hp : allPlain es = true) (hne : es ≠ [])
    (h : wpAny (model U.prog U.w) A (spliced (backTo pos (starEach es env))) (fun vs s₁ => wpAny (model U.prog U.w) A (call (.builtin id) vs) Q E s₁) E s) :
    wpAny (model U.prog U.w) A (eval (.Call (.Name x p) es [] pos) env) Q E s :=
  Call_ (blt_name b hE hB (callWith_builtin (plain_any hp) (evalArgs_all hp hne h)))
theorem typ_call {x : Str} {T : String} {p pos : Pos} {es : List Expr} {A : Around} {env : Env} {s : Shared} {Q : Value → Shared → Prop} {E : Value → Shared → Prop} (b : BltIn U Z x (.type T)) (hE : EnvOk Z env) (hB : U.Base s.heap) (hp : allPlain es = true) (hne : es ≠ [])
    (h : wpAny (model U.prog U.w) A (spliced (backTo pos (starEach es env))) (fun vs s₁ => wpAny (model U.prog U.w) A (call (.type T) vs) Q E s₁) E s) :
    wpAny (model U.prog U.w) A (eval (.Call (.Name x p) es [] pos) env) Q E s :=
  Call_ (blt_name b hE hB (PySem.callWith_type (plain_any hp) (evalArgs_all hp hne h)))
/- one argument -/
theorem one_arg {e : Expr} {x : X} {A : Around} {env : Env} {s : Shared} {G : PH} {r : Rho} {d : D} {pos : Pos} {Q : List Value → Shared → Prop} {E : Value → Shared → Prop} (h : Snd U l C Z e x) (hp : notStar e = true) (hE : EnvOk Z env) (hR : Room A l) (hB : U.Base s.heap) (R : SRel Z env r G s.heap) (q : ev C r x = some d)
    (k : ∀ v s' G', ExtE s s' G G' → Rep G' d v → Q [v] s') : wpAny (model U.prog U.w) A (spliced (backTo pos (starEach [e] env))) Q E s :=
  wpAny_items_cons ((h A env s G r d hE hR hB R q).use fun v s' G' x1 r1 => wpAny_items_nil (k v s' G' x1 r1)) (starEach_plain hp)
theorem one_argO {e : Expr} {x : O} {A : Around} {env : Env} {s : Shared} {G : PH} {r : Rho} {d : D} {pos : Pos} {Q : List Value → Shared → Prop} {E : Value → Shared → Prop} (h : SndO U l C Z e x) (hp : notStar e = true) (hE : EnvOk Z env) (hR : Room A l) (hB : U.Base s.heap) (R : SRel Z env r G s.heap) (q : evO C r x = some d)
    (k : ∀ v s' G', ExtE s s' G G' → RepTop s'.heap G' d v → Q [v] s') : wpAny (model U.prog U.w) A (spliced (backTo pos (starEach [e] env))) Q E s :=
  wpAny_items_cons (wpAny_mono (h A env s G r d hE hR hB R q) (fun v s' ⟨G', x1, r1⟩ => wpAny_items_nil (k v s' G' x1 r1)) fun _ _ f => f.elim) (starEach_plain hp)
theorem one_plain {e : Expr} (h : notStar e = true) : allPlain [e] = true := by unfold allPlain; rw [h]; rfl
theorem Snd.len {nm : Str} {e : Expr} {x : O} {p pos : Pos} (b : BltIn U Z nm (.builtin "len")) (h : SndO U l C Z e x) (hp : notStar e = true) : Snd U l C Z (.Call (.Name nm p) [e] [] pos) (.len x) := by
  intro A env s G r d hE hR hB R q
  obtain ⟨d1, e1, q⟩ := bsome q
  refine blt_call b hE hB (one_plain hp) (by simp) (one_argO h hp hE hR hB R e1 fun v s' G' x1 r1 => ?_)
  have hb : big = 1000000 := rfl
  have fin : ∀ {n : Int} {t : Tok} {tk : Nat}, ∃ G'', ExtE s { s' with toks := tk } G G'' ∧ Rep G'' (.int n) (.int n t) := fun {n t tk} => ⟨G', x1.trans (ExtE.toks x1.sub), by simp only [Rep]; exact ⟨_, rfl⟩⟩
  cases d1 with
  | list l =>
    obtain ⟨hl', q⟩ := isome (show (if l.length ≤ big then some (D.int l.length) else .none) = some d from q)
    obtain ⟨a', vs, n, rfl, g, r2⟩ := r1
    have hl := r2.length; rw [Array.length_toList] at hl
    cases q; rw [← hl]; exact call_len_list ⟨_, g, rfl, n, rfl⟩ (by omega) fin
  | tup l =>
    obtain ⟨hl', q⟩ := isome (show (if l.length ≤ big then some (D.int l.length) else .none) = some d from q)
    obtain ⟨a', vs, n, rfl, g, r2⟩ := Rep.tup_iff r1
    have hl := r2.length; rw [Array.length_toList] at hl
    cases q; rw [← hl]; exact P.len_tuple (x1.sub _ _ g) (by omega) fin
  | str l =>
    obtain ⟨hl', q⟩ := isome (show (if l.length ≤ big then some (D.int l.length) else .none) = some d from q)
    obtain ⟨t, rfl⟩ := Rep.str_iff (G := G') r1
    cases q; exact SBL.len (by omega) fin
  | _ => exact nope q
theorem Snd.abs {nm : Str} {e : Expr} {x : X} {p pos : Pos} (b : BltIn U Z nm (.builtin "abs")) (h : Snd U l C Z e x) (hp : notStar e = true) : Snd U l C Z (.Call (.Name nm p) [e] [] pos) (.abs x) := by
  intro A env s G r d hE hR hB R q
  obtain ⟨d1, e1, q⟩ := bsome q
  refine blt_call b hE hB (one_plain hp) (by simp) (one_arg h hp hE hR hB R e1 fun v s' G' x1 r1 => ?_)
  obtain ⟨i, hi, q⟩ := bsome q
  rw [asI_inv hi] at r1; cases q
  obtain ⟨t, rfl⟩ := Rep.int_iff r1
  refine call_abs_int fun u tk => ⟨G', x1.trans (ExtE.toks x1.sub), u, ?_⟩
  congr 1
  split <;> omega
theorem allInts_sum {A : Around} {s : Shared} {a : Addr} {vs : Array Value} {n : Nat} {ns : List Int} {prog : Program} {w : World} {Q : Value → Shared → Prop} {E : Value → Shared → Prop} (hh : A.handled = none) (g : s.heap.get? a = some (lstO vs n)) (hi : IntsAre vs.toList ns)
    (h : ∀ h' tk t', (∀ b o, s.heap.get? b = some o → h'.get? b = some o) → Q (.int ns.sum t') { s with heap := h', toks := tk }) : wpAny (model prog w) A (call (.builtin "sum") [.ref a]) Q E s := by
  have ha := hi.allInts
  have hn := hi.numsOf
  simp only [Array.toArray_toList] at ha
  obtain ⟨xs, rfl⟩ := ha.items
  rw [nums_intItems] at hn
  refine sum_intListG hh ⟨_, g, rfl, n, rfl⟩ fun h' tk t' hk => ?_
  have := h h' tk t' hk
  rw [preSum_eq, List.take_of_length_le (by simp), hn]; exact this
theorem ExtE.grow {s : Shared} {G : PH} {h' : Heap} {tk : Nat} (hG : ∀ a o, G a = some o → s.heap.get? a = some o) (hk : ∀ b o, s.heap.get? b = some o → h'.get? b = some o) : ExtE s { s with heap := h', toks := tk } G G :=
  ⟨.of hk, PH.le.refl _, fun a o e => hk _ _ (hG _ _ e), fun _ _ => rfl, rfl, id⟩
theorem Snd.sum {nm : Str} {e : Expr} {x : X} {p pos : Pos} (b : BltIn U Z nm (.builtin "sum")) (h : Snd U l C Z e x) (hp : notStar e = true) : Snd U l C Z (.Call (.Name nm p) [e] [] pos) (.sum x) := by
  intro A env s G r d hE hR hB R q
  obtain ⟨d1, e1, q⟩ := bsome q
  refine blt_call b hE hB (one_plain hp) (by simp) (one_arg h hp hE hR hB R e1 fun v s' G' x1 r1 => ?_)
  refine bC fun z_ => ?_
  (obtain ⟨l, hl, q⟩ := bsome q; obtain ⟨ns, e2, rfl⟩ := Option.map_eq_some_iff.mp q; rw [asL_inv hl] at r1; obtain ⟨a, vs, n, rfl, g, r2⟩ := Rep.list_iff r1) <;> refine z_ ?_ <;> clear z_
  exact allInts_sum hR.hand (x1.sub _ _ g) (ints_of r2 e2) fun h' tk t' hk => ⟨G', x1.trans (ExtE.grow x1.sub hk), _, rfl⟩
end
end Mine
end

/- part E7 -/
section
open PySem PySem.W PyProof.Rows PySem.Calls PySem.Spec PyProof.V PySem.Builtin PySem.Builtin.Str
namespace Mine
theorem RepL.take {G : PH} : ∀ {l : List D} {vs : List Value}, RepL G l vs → ∀ k, RepL G (l.take k) (vs.take k)
  | _, _, _, 0 => by simpa using RepL.nil
  | [], _, r, k + 1 => by rw [r.nil_iff]; simpa using RepL.nil
  | d :: ds, _, r, k + 1 => by
    refine bC fun z_ => ?_
    (obtain ⟨v, q, rfl, r1, r2⟩ := r.cons_iff) <;> refine z_ ?_ <;> clear z_
    simpa using RepL.cons r1 (r2.take k)
theorem RepL.drop {G : PH} : ∀ {l : List D} {vs : List Value}, RepL G l vs → ∀ k, RepL G (l.drop k) (vs.drop k)
  | _, _, r, 0 => by simpa using r
  | [], _, r, k + 1 => by rw [r.nil_iff]; simpa using RepL.nil
  | d :: ds, _, r, k + 1 => by
    refine bC fun z_ => ?_
    (obtain ⟨v, q, rfl, r1, r2⟩ := r.cons_iff) <;> refine z_ ?_ <;> clear z_
    simpa using r2.drop k
section
variable {prog : Program} {w : World} {A : Around} {s : Shared} {G : PH} {E : Value → Shared → Prop}
theorem pick_upto (items : Array Value) {y : Int} (h : 0 ≤ y) : slicePick items none (some y) none = (items.toList.take y.toNat).toArray := by
  have e : sliceBounds none (some y) none items.size = (((0 : Nat) : Int), ((min y.toNat items.size : Nat) : Int), 1) := by
    simp only [sliceBounds, Option.getD_none, show (1 : Int) > 0 by decide, if_true, if_neg (show ¬ (y < 0) by omega)]
    congr 1
    congr 1
    omega
  rw [kmk_pick_nat _ e, List.drop_zero, Nat.sub_zero]
  congr 1
  have := kmk_take_min items.toList y.toNat
  rwa [Array.length_toList] at this
theorem sliceApplied_to {sl : Addr} {a n : Nat} {u : Tok} {Q : Int × Int × Nat → Shared → Prop} (hs : s.heap.IsSliceOf sl .none (.int a u) .none) (ha : a ≤ n) (h : Q (0, 1, a) s) :
    wpAny (model prog w) A (Builtin.Slice.sliceApplied (.ref sl) (pure (n : Int))) Q E s := by
  refine bC fun z_ => ?_
  (obtain ⟨os, hos, hcs, hds⟩ := id hs) <;> refine z_ ?_ <;> clear z_
  unfold Builtin.Slice.sliceApplied Builtin.Slice.sliceFields
  refine wpAny_bind (wpAny_bind (wpAny_field hos hds (x := .none) rfl (wpAny_bind (wpAny_field hos hds (x := .int a u) rfl (wpAny_bind (wpAny_field hos hds (x := .none) rfl (wpAny_pure ?_)))))))
  refine wpAny_bind (slicePart_none ?_)
  show wpAny _ _ (if ((1 : Int) == 0) = true then _ else _) _ _ s
  rw [if_neg (by decide)]
  refine wpAny_bind (slicePart_none (wpAny_bind (slicePart_int (wpAny_bind (wpAny_pure ?_)))))
  show wpAny _ _ (match Builtin.Slice.sliceAdjust none (some (a : Int)) 1 (n : Int) with | (lo, hi) => pure (lo, (1 : Int), Builtin.Slice.slicePlaces lo hi 1)) _ _ s
  have e1 : Builtin.Slice.sliceAdjust none (some (a : Int)) 1 (n : Int) = (0, (a : Int)) := by
    unfold Builtin.Slice.sliceAdjust
    have h1 : ¬ ((1 : Int) < 0) := by omega
    have h2 : ¬ ((a : Int) < 0) := by omega
    simp only [h1, h2, if_false]
    congr 1
    omega
  have e2 : Builtin.Slice.slicePlaces 0 (a : Int) 1 = a := by
    unfold Builtin.Slice.slicePlaces
    have h1 : (1 : Int) > 0 := by omega
    simp only [h1, if_true, Int.ediv_one]
    split <;> omega
  rw [e1]
  show wpAny _ _ (pure ((0 : Int), (1 : Int), Builtin.Slice.slicePlaces 0 (a : Int) 1)) _ _ s
  rw [e2]
  exact wpAny_pure h
theorem pick_to (xs : Array Value) (a : Nat) : ((List.range a).filterMap fun (k : Nat) => xs[((0 : Int) + (k : Int) * 1).toNat]?).toArray = (xs.toList.take a).toArray := by
  have e : (fun (k : Nat) => xs[((0 : Int) + (k : Int) * 1).toNat]?) = fun k => xs[0 + k]? := by
    funext k
    have : ((0 : Int) + (k : Int) * 1).toNat = 0 + k := by omega
    rw [this]
  rw [e]
  have := pick_run xs 0 a
  rw [List.filterMap_map] at this
  have e2 : ((fun x => xs[x]?) ∘ fun x => 0 + x) = fun k => xs[0 + k]? := rfl
  rw [e2] at this
  rw [this, List.drop_zero]
theorem getItem_tuple_to {t sl : Addr} {items : Array Value} {a : Nat} {u : Tok} {Q : Value → Shared → Prop} (ht : IsTup s.heap t items) (hs : s.heap.IsSliceOf sl .none (.int a u) .none) (ha : a < items.size)
    (hsz : items.size ≤ sizeLine) (h : Q (.ref s.heap.objs.size) { s with heap := s.heap.push { cls := .type "tuple", data := .seq (items.toList.take a).toArray } }) : wpAny (model prog w) A (getItem (.ref t) (.ref sl)) Q E s := by
  have hdrop : sizeOk (.seq (items.toList.take a).toArray) := by
    show (items.toList.take a).toArray.size ≤ sizeLine
    rw [List.size_toArray, List.length_take, Array.length_toList]
    omega
  refine bC fun z_ => ?_
  (obtain ⟨os, hos, hcs, hds⟩ := id hs) <;> refine z_ ?_ <;> clear z_
  have hTs : s.TypeIs (.ref sl) "slice" := ⟨os, hos, hcs⟩
  unfold getItem
  try with_reducible refine wpAny_holding ?_
  first | refine wpAny_bind (wpAny_pure ?_) | skip
  refine wpAny_bind (wpAny_sequenceKey ht.typeIs (by decide) ?_)
  refine wpAny_bind (wpAny_callSpecial?_slot (name := Str.ofString "__getitem__") ht.typeIs slot_tuple_getitem
    (wpAny_call_entry slot_tuple_getitem ht.typeIs entry_tuple_getitem ?_ (args_tuple_getitem _ _)))
  show wpAny _ _ (Builtin.Tuple.tupleItemsOf (.ref t) >>= _) _ _ s
  refine wpAny_bind (tupleItemsOf_ ht ?_)
  refine wpAny_bind (wpAny_typeOf hTs ?_)
  rw [if_pos (by decide)]
  refine wpAny_bind (sliceApplied_to hs (Nat.le_of_lt ha) ?_)
  have hno : ¬ (((0 : Int) == 0 && (1 : Int) == 1 && a == items.size) = true) := by
    have : (a == items.size) = false := by rw [beq_eq_false_iff_ne]; omega
    rw [this]; simp
  show wpAny _ _ (if ((0 : Int) == 0 && (1 : Int) == 1 && a == items.size) = true then _ else _) _ _ s
  rw [if_neg hno, pick_to items a]
  first
    | exact wpAny_bind (m := Builtin.Tuple.tupleExact _) (wpAny_newObj_type (wpAny_pure ⟨_, rfl, wpAny_pure h⟩) hdrop)
    | exact wpAny_bind (m := Builtin.Tuple.tupleExact _) (wpAny_newObj_type (wpAny_bind (wpAny_pure (wpAny_pure ⟨_, rfl, wpAny_pure h⟩))) hdrop)
    | exact wpAny_bind (wpAny_bind (m := Builtin.Tuple.tupleExact _) (wpAny_newObj_type (wpAny_pure (wpAny_pure ⟨_, rfl, wpAny_pure h⟩)) hdrop))
    | exact wpAny_bind (wpAny_bind (m := Builtin.Tuple.tupleExact _) (wpAny_newObj_type (wpAny_pure ⟨_, rfl, wpAny_pure h⟩) hdrop))
theorem tup_isTup {a : Addr} {vs : Array Value} {n : Nat} (h : s.heap.get? a = some (tupO vs n)) : IsTup s.heap a vs := ⟨_, h, rfl, n, rfl⟩
theorem ExtE.push' {o : Obj} (hG : ∀ a o, G a = some o → s.heap.get? a = some o) : ExtE s { s with heap := s.heap.push o } G G :=
  ExtE.grow (tk := s.toks) hG fun _ _ e => Heap.get?_push_of_some _ e
end
section
variable {U : U0} {l : Nat} {C : Cx} {Z : Zz}
/- a part of a slice -/
noncomputable def SndP (U : U0) (l : Nat) (C : Cx) (Z : Zz) (e : Option Expr) (x : Option X) : Prop := match e, x with
  | .none, .none => True
  | some e, some x => Snd U l C Z e x
  | _, _ => False
noncomputable def RepP (G : PH) : Option D → Value → Prop
  | .none, v => v = .none
  | some d, v => Rep G d v
theorem RepP.mono {G G' : PH} (h : G.le G') {d : Option D} {v : Value} (r : RepP G d v) : RepP G' d v := by
  cases d with
  | none => exact r
  | some d => exact Rep.mono h r
theorem SndP.run {e : Option Expr} {x : Option X} (h : SndP U l C Z e x) {A : Around} {env : Env} {s : Shared} {G : PH} {r : Rho} {d : Option D} (hE : EnvOk Z env) (hR : Room A l) (hB : U.Base s.heap) (R : SRel Z env r G s.heap) (q : evP C r x = some d)
    {Q : Value → Shared → Prop} {E : Value → Shared → Prop} (k : ∀ v s' G', ExtE s s' G G' → RepP G' d v → Q v s') : wpAny (model U.prog U.w) A (evalPart e env) Q E s := by
  cases e with
  | none => cases x with
    | none => cases q; rw [evalPart_none]; exact wpAny_pure (k _ _ _ (ExtE.refl R.gle) rfl)
    | some x => exact h.elim
  | some e => cases x with
    | none => exact h.elim
    | some x =>
      obtain ⟨d', qq, rfl⟩ := Option.map_eq_some_iff.mp (show (ev C r x).map some = some d from q)
      rw [evalPart_some]
      exact (h A env s G r d' hE hR hB R qq).use fun v s' G' x1 r1 => k v s' G' x1 r1
theorem keptKeep {s : Shared} : KeptH (fun h => ∀ b o, s.heap.get? b = some o → h.get? b = some o) := fun h ob k b o e => Heap.get?_push_of_some _ (k b o e)
theorem Snd.slice {a : Expr} {lo hi : Option Expr} {x : X} {xl xh : Option X} {pos p : Pos} (h : Snd U l C Z a x) (hl : SndP U l C Z lo xl) (hh : SndP U l C Z hi xh) :
    Snd U l C Z (.Subscript a (.Slice lo hi .none p) pos) (.slice x xl xh) := by
  intro A env s G r d hE hR hB R q
  obtain ⟨d1, q1, ka⟩ := bsome q
  obtain ⟨d2, q2, kb⟩ := bsome ka
  clear q ka
  obtain ⟨d3, q3, q⟩ := bsome kb
  clear kb
  refine Subscript_ ((h A env s G r d1 hE hR hB R q1).use fun v s1 G1 x1 r1 => wpAny_Slice ?_)
  have B1 := hB.keeps x1.keep
  refine hl.run hE hR B1 (R.ext x1) q2 fun v2 s2 G2 x2 r2 => ?_
  refine hh.run hE hR (B1.keeps x2.keep) ((R.ext x1).ext x2) q3 fun v3 s3 G3 x3 r3 => ?_
  rw [evalPart_none]
  refine wpAny_pure ?_
  have x13 := (x1.trans x2).trans x3
  have r1' := r1.mono (x2.le.trans x3.le)
  have r2' := r2.mono x3.le
  clear q1 q2 q3
  cases d2 with
  | none =>
    obtain ⟨e3, he3, ka⟩ := bsome q
    obtain ⟨k, hk3, kb⟩ := bsome ka
    subst he3
    have hk3 := asI_inv hk3; subst hk3
    clear q ka
    cases d1 with
    | list l' =>
      have q : (if 0 ≤ k ∧ l'.length ≤ big then some (D.list (l'.take k.toNat)) else .none) = some d := kb
      clear kb
      obtain ⟨hk, q⟩ := isome q
      cases q
      have r2'' : v2 = .none := r2'
      subst r2''
      have r3' : ∃ t, v3 = Value.int k t := by simpa only [RepP, Rep] using r3
      obtain ⟨u, rfl⟩ := r3'
      simp only [Rep] at r1'
      refine bC fun z_ => ?_
      (obtain ⟨a', vs, n, rfl, g, rr⟩ := r1') <;> refine z_ ?_ <;> clear z_
      have hg := x3.sub _ _ g
      have hb : big = 1000000 := rfl
      have hsz := rr.length; rw [Array.length_toList] at hsz
      have hsl := sizeLine_eq
      have hIL : s3.heap.IsList a' vs := ⟨_, hg, rfl, n, rfl⟩
      refine tail_any (T := "list") ⟨_, Heap.get?_push_of_some _ hg, rfl⟩ slot_list_getitem.lookup (wpAny_getItem_list_slice (hIL.push _) (Heap.IsSliceOf.new ..) .none (.int _ _) .none (by simp) ?_ (by omega)) rfl
      rw [pick_upto _ hk.1]
      have x4 := ExtE.push' (s := s3) (G := G3) (o := { cls := .type "slice", data := .fields #[.none, .int k u, .none] }) x3.sub
      refine ⟨_, (x13.trans x4).trans (ExtE.push (o := lstO (vs.toList.take k.toNat).toArray 0) (tk := s3.toks) x4.sub rfl), ?_⟩
      simp only [Rep]
      exact ⟨_, _, _, rfl, PH.put_self _ _ _, (rr.take _).mono (ExtE.push (o := lstO (vs.toList.take k.toNat).toArray 0) (tk := s3.toks) x4.sub rfl).le⟩
    | tup l' =>
      have q : (if 0 ≤ k ∧ k < l'.length ∧ l'.length ≤ big then some (D.tup (l'.take k.toNat)) else .none) = some d := kb
      clear kb
      obtain ⟨hk, q⟩ := isome q
      cases q
      have r2'' : v2 = .none := r2'
      subst r2''
      have r3' : ∃ t, v3 = Value.int k t := by simpa only [RepP, Rep] using r3
      obtain ⟨u, rfl⟩ := r3'
      simp only [Rep] at r1'
      refine bC fun z_ => ?_
      (obtain ⟨a', vs, n, rfl, g, rr⟩ := r1') <;> refine z_ ?_ <;> clear z_
      have hg := x3.sub _ _ g
      have hb : big = 1000000 := rfl
      have hsz := rr.length; rw [Array.length_toList] at hsz
      have hsl := sizeLine_eq
      have ek : k = (k.toNat : Int) := by omega
      rw [ek]
      refine tail_any (T := "tuple") ⟨_, Heap.get?_push_of_some _ hg, rfl⟩ slot_tuple_getitem.lookup (getItem_tuple_to ((tup_isTup hg).keeps fun _ _ e => Heap.get?_push_of_some _ e) (Heap.IsSliceOf.new ..) (by omega) (by omega) ?_) rfl
      have x4 := ExtE.push' (s := s3) (G := G3) (o := { cls := .type "slice", data := .fields #[.none, .int (k.toNat : Int) u, .none] }) x3.sub
      refine ⟨_, (x13.trans x4).trans (ExtE.push (o := tupO (vs.toList.take k.toNat).toArray 0) (tk := s3.toks) x4.sub rfl), ?_⟩
      simp only [Rep]
      exact ⟨_, _, _, rfl, PH.put_self _ _ _, (rr.take _).mono (ExtE.push (o := tupO (vs.toList.take k.toNat).toArray 0) (tk := s3.toks) x4.sub rfl).le⟩
    | str l' =>
      have q : (if l'.length ≤ 1000 then some (D.str (Txt.slice l' .none (some k))) else .none) = some d := kb
      clear kb
      obtain ⟨hk, q⟩ := isome q
      cases q
      have r2'' : v2 = .none := r2'
      subst r2''
      have r3' : ∃ t, v3 = Value.int k t := by simpa only [RepP, Rep] using r3
      obtain ⟨u, rfl⟩ := r3'
      simp only [Rep] at r1'; obtain ⟨t, rfl⟩ := r1'
      have hsl := sizeLine_eq
      refine tail_of_ItemOn (SBH.sliceItem_ns (keptKeep (s := s3)) (fun _ _ e => e) (fun h' t' k hk' => ⟨G3, x13.trans (ExtE.grow x3.sub hk'), by simp only [Rep]; exact ⟨_, rfl⟩⟩) (by omega)) rfl fun r => ?_
      cases a <;> rfl
    | _ => cases kb
  | some e2 => cases d3 with
    | some _ => cases q
    | none =>
      obtain ⟨k, hk2, ka⟩ := bsome q
      obtain ⟨l', hx, kb⟩ := bsome ka
      have hk2 := asI_inv hk2; subst hk2; have hx := asS_inv hx; subst hx
      clear ka q
      have q := kb; clear kb
      obtain ⟨hk, q⟩ := isome q
      cases q
      have r3' : v3 = .none := r3
      subst r3'
      have r2'' : ∃ t, v2 = Value.int k t := by simpa only [RepP, Rep] using r2'
      obtain ⟨u, rfl⟩ := r2''
      simp only [Rep] at r1'; obtain ⟨t, rfl⟩ := r1'
      have hsl := sizeLine_eq
      refine tail_of_ItemOn (SBH.sliceItem_sn (keptKeep (s := s3)) (fun _ _ e => e) (fun h' t' k hk' => ⟨G3, x13.trans (ExtE.grow x3.sub hk'), by simp only [Rep]; exact ⟨_, rfl⟩⟩) (by omega)) rfl fun r => ?_
      cases a <;> rfl
end
end Mine
end

/- part E8 -/
section
open PySem PySem.W PyProof.Rows PySem.Calls PySem.Spec PyProof.V PySem.Builtin PySem.Builtin.Str
set_option maxRecDepth 10000
namespace Mine
section
variable {prog : Program} {w : World} {A : Around} {s : Shared} {G : PH} {E : Value → Shared → Prop}
theorem gives_find4 (x y : Str) (i j : Int) (t u v v' : Tok) (hi : 0 ≤ i) (hj : 0 ≤ j) (hj2 : j ≤ x.length) : Gives («str.find» ⟨[.str x t, .str y u, .int i v, .int j v'], []⟩) (.int (find4 x y i.toNat j.toNat)) := by
  have e1 : fromIndex x.length i = i.toNat := by unfold fromIndex; rw [if_neg (by omega)]; omega
  have e2 : min (fromIndex x.length j) x.length = j.toNat := by unfold fromIndex; rw [if_neg (by omega)]; omega
  have key : Gives (match occurrences x y i.toNat j.toNat 1 with | k :: _ => retInt k | [] => (do rule "str.find.not-found"; retInt (-1))) (.int (find4 x y i.toNat j.toNat)) := by
    unfold find4
    cases occurrences x y i.toNat j.toNat 1 with
    | nil => exact .rule (.of_eq rfl)
    | cons k _ => exact .of_eq rfl
  rw [← e1, ← e2] at key ⊢
  exact key
theorem strs_of : ∀ {l : List D} {vs : List Value} {ys : List Str}, RepL G l vs → D.strs l = some ys → StrsAre vs ys
  | [], vs, ns, r, e => by
    have := r.nil_iff; subst this
    cases e; exact .nil
  | d :: ds, vs, ns, r, e => by
    refine bC fun z => ?_
    obtain ⟨i, hi, e⟩ := bsome e
    obtain ⟨ms, e1, e2⟩ := Option.map_eq_some_iff.mp e
    obtain ⟨v, q, e3, r1, r2⟩ := r.cons_iff
    rw [asS_inv hi] at r1
    obtain ⟨t, e4⟩ := Rep.str_iff r1
    exact z (by rw [← e2, e3, e4]; exact .cons _ _ (strs_of r2 e1))
theorem strs_rep : ∀ (l : List (Str × Tok)), RepL G ((l.map (·.1)).map D.str) (strValues l)
  | [] => by simpa [strValues] using RepL.nil
  | p :: r => by
    have := strs_rep r
    simp only [strValues, List.map_cons] at this ⊢
    exact RepL.cons (by simp only [Rep]; exact ⟨_, rfl⟩) this
theorem split_new {x y : Str} {t u : Tok} {Q : Value → Shared → Prop} (hy : (y.length == 0) = false) (hsz : x.length + 2 ≤ sizeLine)
    (h : ∀ l k, l.map (·.1) = Txt.split x y → Q (.ref s.heap.objs.size) { s with heap := s.heap.push (lstO (strValues l).toArray 0), toks := k }) :
    wpAny (model prog w) A (call (.builtin "str.split") [.str x t, .str y u]) Q E s := by
  have hn : (partsBetween x (occurrences x y 0 x.length (x.length + 1)) y.length).length ≤ sizeLine := by
    have e1 := StrLaws.occ_length_le x y 0 x.length (x.length + 1)
    rw [length_partsBetween]; omega
  cases h1 : (decide (x.length < y.length) || decide (strKind x < strKind y))
  · cases hf : (occurrences x y 0 x.length (x.length + 1)).isEmpty
    · refine call_meets F.slot_str_split (typeIs_str _ _ _) F.entry_str_split (F.args_str_split_2 _ _) (meets_str_split_sep x y t u h1 hy hf (by omega) hn) ?_
      show wants Q E _ { s with toks := _, heap := s.heap.push { cls := .type "list", data := .seq (strsFrom s.toks (partsBetween x (occurrences x y 0 x.length (x.length + 1)) y.length)).toArray } }
      rw [strsFrom_eq]
      exact h (numbered s.toks _) _ ((numbered_texts _ _).trans ((if_neg (ne_true_of_eq_false h1)).trans (if_neg (ne_true_of_eq_false hf))).symm)
    · exact call_meets F.slot_str_split (typeIs_str _ _ _) F.entry_str_split (F.args_str_split_2 _ _) (meets_str_split_not_found x y t u h1 hy hf)
        (h [(x, t)] s.toks ((if_neg (ne_true_of_eq_false h1)).trans (if_pos hf)).symm)
  · exact call_meets F.slot_str_split (typeIs_str _ _ _) F.entry_str_split (F.args_str_split_2 _ _) (meets_str_split_cannot_occur x y t u h1)
      (h [(x, t)] s.toks (if_pos h1).symm)
/- one new object, looked at only -/
noncomputable def OkN (prog : Program) (w : World) (A : Around) (t : Sem Value) (s : Shared) (G : PH) (d : D) : Prop :=
  wpAny (model prog w) A t (fun v s' => ∃ G' a, ExtE s s' G G' ∧ RepTop s'.heap G' d v ∧ v = .ref a ∧ s.heap.get? a = none ∧ G' a = none ∧ d.isObj = true) (fun _ _ => False) s
theorem fresh_none {a : Addr} (h : s.heap.objs.size ≤ a) : s.heap.get? a = none := by
  cases q : s.heap.get? a with
  | none => rfl
  | some o => exact absurd (Heap.lt_size q) (Nat.not_lt.mpr h)
theorem PH.fresh (hG : ∀ a o, G a = some o → s.heap.get? a = some o) {a : Addr} (h : s.heap.get? a = none) : G a = none := by
  cases q : G a with
  | none => rfl
  | some o => rw [hG _ _ q] at h; cases h
/- an object that is new, and now kept -/
theorem ExtE.keepNew {s' : Shared} {G' : PH} (x : ExtE s s' G G') {a : Addr} {o : Obj} (h0 : s.heap.get? a = none) (hg : G' a = none) (ho : s'.heap.get? a = some o) : ExtE s s' G (G'.put a o) := by
  refine ⟨x.keep, x.le.trans (PH.le_put hg), fun b o' e => ?_, fun b h => ?_, x.os, x.gens⟩
  · by_cases q : b = a
    · subst q; rw [PH.put_self] at e; cases e; exact ho
    · simp only [PH.put, q, if_false] at e; exact x.sub _ _ e
  · have : b ≠ a := fun q => by rw [q, h0] at h; cases h
    simp only [PH.put, this, if_false]; exact x.old b h
theorem OkN.ok {t : Sem Value} {d : D} (h : OkN prog w A t s G d) (hd : ∀ l, d ≠ .dict l) : OkV prog w A t s G d :=
  wpAny_mono h (fun v s' ⟨G', a, x, r, e, h0, hg, hk⟩ => by
    subst e
    cases d with
    | list l =>
      refine bC fun z_ => ?_
      (obtain ⟨b, vs, n, e, g, r⟩ := r) <;> refine z_ ?_ <;> clear z_
      cases e
      refine ⟨_, x.keepNew h0 hg g, ?_⟩
      simp only [Rep]
      exact ⟨_, _, _, rfl, PH.put_self _ _ _, r.mono (PH.le_put hg)⟩
    | dict l => exact absurd rfl (hd l)
    | _ => simp [D.isObj] at hk) fun _ _ q => q
end
theorem split_ok {prog : Program} {w : World} {A : Around} {s : Shared} {G : PH} (hG : ∀ a o, G a = some o → s.heap.get? a = some o) {x y : Str} {t u : Tok} (hy : (y.length == 0) = false) (hsz : x.length + 2 ≤ sizeLine) :
    OkN prog w A (call (.builtin "str.split") [.str x t, .str y u]) s G (.list ((Txt.split x y).map D.str)) :=
  split_new hy hsz fun l k hl => ⟨G, s.heap.objs.size, ExtE.grow hG fun _ _ e => Heap.get?_push_of_some _ e,
    ⟨_, _, _, rfl, Heap.get?_push_size _ rfl, by rw [← hl]; exact strs_rep l⟩, rfl, fresh_none (Nat.le_refl _), PH.fresh hG (fresh_none (Nat.le_refl _)), rfl⟩
section
variable {U : U0} {l : Nat} {C : Cx} {Z : Zz}
theorem more_args {es : List Expr} {xs : List X} {A : Around} {env : Env} {s : Shared} {G : PH} {r : Rho} {ds : List D} {pos : Pos} {Q : List Value → Shared → Prop} {E : Value → Shared → Prop} (h : SndL U l C Z es xs) (hE : EnvOk Z env) (hR : Room A l) (hB : U.Base s.heap) (R : SRel Z env r G s.heap) (q : evL C r xs = some ds)
    (k : ∀ vs s' G', ExtE s s' G G' → RepL G' ds vs → Q vs s') : wpAny (model U.prog U.w) A (spliced (backTo pos (starEach es env))) Q E s :=
  wpAny_mono (h A env s G r ds pos hE hR hB R q) (fun vs s' ⟨G', x, r⟩ => k vs s' G' x r) fun _ _ f => f.elim
noncomputable def methId (name : Str) : String :=
  if name = Str.ofString "split" then "str.split" else if name = Str.ofString "startswith" then "str.startswith" else if name = Str.ofString "endswith" then "str.endswith"
  else if name = Str.ofString "count" then "str.count" else if name = Str.ofString "find" then "str.find" else "str.join"
theorem ite_inv {α : Type} {p : Prop} [Decidable p] {a b : Option α} {q : α} (h : (if p then a else b) = some q) : (p ∧ a = some q) ∨ (¬p ∧ b = some q) := by
  by_cases k : p
  · rw [if_pos k] at h; exact .inl ⟨k, h⟩
  · rw [if_neg k] at h; exact .inr ⟨k, h⟩
theorem ite_some {α : Type} {p : Prop} [Decidable p] {a : Option α} {q : α} (h : (if p then a else .none) = some q) : p ∧ a = some q := by
  rcases ite_inv h with h | h
  · exact h
  · cases h.2
theorem methD_inv {name : Str} {d : D} {ds : List D} {q : D} (e : methD name d ds = some q) : ∃ x, d = .str x ∧ ((name = Str.ofString "split" ∧ splitM x ds = some q) ∨ (name = Str.ofString "startswith" ∧ startM x ds = some q) ∨ (name = Str.ofString "endswith" ∧ endM x ds = some q) ∨ (name = Str.ofString "count" ∧ countM x ds = some q) ∨
    (name = Str.ofString "find" ∧ findM x ds = some q) ∨ (name = Str.ofString "join" ∧ joinM x ds = some q)) := by
  obtain ⟨x, hx, k_⟩ := bsome e
  exact ⟨x, asS_inv hx, (ite_inv k_).imp id fun h => (ite_inv h.2).imp id fun h => (ite_inv h.2).imp id fun h => (ite_inv h.2).imp id fun h => (ite_inv h.2).imp id fun h => ite_some h.2⟩
theorem mid1 : methId (Str.ofString "split") = "str.split" := by decide +kernel
theorem mid2 : methId (Str.ofString "startswith") = "str.startswith" := by decide +kernel
theorem mid3 : methId (Str.ofString "endswith") = "str.endswith" := by decide +kernel
theorem mid4 : methId (Str.ofString "count") = "str.count" := by decide +kernel
theorem mid5 : methId (Str.ofString "find") = "str.find" := by decide +kernel
theorem mid6 : methId (Str.ofString "join") = "str.join" := by decide +kernel
theorem strD_inv {l : List D} {y : Str} (h : strD l = some y) : l = [.str y] := by
  obtain ⟨d, h1, h2⟩ := bsome h
  rw [oneD_inv h1, asS_inv h2]
theorem RepL.oneS {G : PH} {y : Str} {vs : List Value} (rs : RepL G [.str y] vs) : ∃ u, vs = [.str y u] := by
  obtain ⟨v', r', rfl, r1, r2⟩ := rs.cons_iff
  have := r2.nil_iff; subst this
  simp only [Rep] at r1; obtain ⟨u, rfl⟩ := r1
  exact ⟨u, rfl⟩
theorem meth_get {name : Str} {d : D} {ds : List D} {q : D} {v : Value} {G : PH} (r : Rep G d v) (e : methD name d ds = some q) {M : Model} {A : Around} (pl : Sem Bool) (s₀ : Shared) (Q : Value × List Value → Shared → Prop) (E : Value → Shared → Prop) (hq : Q (.builtin (methId name), [v]) s₀) :
    wpAny M A (getMethod v name pl) Q E s₀ := by
  refine bC fun z_ => ?_
  (obtain ⟨x, rfl, h⟩ := methD_inv e) <;> refine z_ ?_ <;> clear z_
  simp only [Rep] at r; obtain ⟨t, rfl⟩ := r
  clear e
  rcases h with ⟨rfl, _⟩ | ⟨rfl, _⟩ | ⟨rfl, _⟩ | ⟨rfl, _⟩ | ⟨rfl, _⟩ | ⟨rfl, _⟩
  · rw [mid1] at hq; with_reducible exact GM.split hq
  · rw [mid2] at hq; with_reducible exact GM.startswith hq
  · rw [mid3] at hq; with_reducible exact GM.endswith hq
  · rw [mid4] at hq; with_reducible exact GM.count hq
  · rw [mid5] at hq; with_reducible exact GM.find hq
  · rw [mid6] at hq; with_reducible exact GM.join hq
theorem meth_ok {name : Str} {d : D} {ds : List D} {q : D} {v : Value} {vs : List Value} {A : Around} {s : Shared} {G : PH} (hh : A.handled = none) (hG : ∀ a o, G a = some o → s.heap.get? a = some o) (r : Rep G d v) (rs : RepL G ds vs) (e : methD name d ds = some q) :
    OkV U.prog U.w A (call (.builtin (methId name)) (v :: vs)) s G q := by
  have hsl := sizeLine_eq
  refine bC fun z_ => ?_
  (obtain ⟨x, rfl, h⟩ := methD_inv e) <;> refine z_ ?_ <;> clear z_
  simp only [Rep] at r; obtain ⟨t, rfl⟩ := r
  clear e
  rcases h with ⟨rfl, e⟩ | ⟨rfl, e⟩ | ⟨rfl, e⟩ | ⟨rfl, e⟩ | ⟨rfl, e⟩ | ⟨rfl, e⟩
  · rw [mid1]
    obtain ⟨y, hy, k_⟩ := bsome e
    have hy := strD_inv hy; subst hy
    clear e
    refine bC fun z_ => ?_
    (obtain ⟨u, rfl⟩ := rs.oneS) <;> refine z_ ?_ <;> clear z_
    rcases ite_inv k_ with ⟨hk, e⟩ | ⟨_, e⟩
    · cases e
      exact (split_ok hG (by rw [beq_eq_false_iff_ne]; exact hk.1) (by omega)).ok fun l e => by cases e
    · cases e
  · rw [mid2]
    obtain ⟨y, hy, k_⟩ := bsome e
    have hy := strD_inv hy; subst hy
    clear e; cases k_
    refine bC fun z_ => ?_
    (obtain ⟨u, rfl⟩ := rs.oneS) <;> refine z_ ?_ <;> clear z_
    exact (SC.startswith (ends_bool hG))
  · rw [mid3]
    obtain ⟨y, hy, k_⟩ := bsome e
    have hy := strD_inv hy; subst hy
    clear e; cases k_
    refine bC fun z_ => ?_
    (obtain ⟨u, rfl⟩ := rs.oneS) <;> refine z_ ?_ <;> clear z_
    exact (SC.endswith (ends_bool hG))
  · rw [mid4]
    obtain ⟨y, hy, k_⟩ := bsome e
    have hy := strD_inv hy; subst hy
    clear e; cases k_
    refine bC fun z_ => ?_
    (obtain ⟨u, rfl⟩ := rs.oneS) <;> refine z_ ?_ <;> clear z_
    exact (SC.count (ends_int hG))
  · rw [mid5]
    rcases ds with _ | ⟨d1, _ | ⟨d2, _ | ⟨d3, _ | ⟨d4, r4⟩⟩⟩⟩
    · cases e
    · cases e
    · cases e
    · obtain ⟨y, hy, k1⟩ := bsome e
      obtain ⟨a, ha, k2⟩ := bsome k1
      obtain ⟨b, hb, k3⟩ := bsome k2
      clear e k1 k2
      have hy := asS_inv hy; subst hy; have ha := asI_inv ha; subst ha; have hb := asI_inv hb; subst hb
      refine bC fun z_ => ?_
      (obtain ⟨v', r', rfl, r1, r2⟩ := rs.cons_iff) <;> refine z_ ?_ <;> clear z_
      refine bC fun z_ => ?_
      (obtain ⟨v2, r'2, rfl, r3, r4⟩ := r2.cons_iff) <;> refine z_ ?_ <;> clear z_
      refine bC fun z_ => ?_
      (obtain ⟨v3, r'3, rfl, r5, r6⟩ := r4.cons_iff) <;> refine z_ ?_ <;> clear z_
      have := r6.nil_iff; subst this
      simp only [Rep] at r1; obtain ⟨u, rfl⟩ := r1
      simp only [Rep] at r3; obtain ⟨u', rfl⟩ := r3
      simp only [Rep] at r5; obtain ⟨u'', rfl⟩ := r5
      rcases ite_inv k3 with ⟨hk, e⟩ | ⟨_, e⟩
      · cases e
        exact (call_gives F.slot_str_find (typeIs_str _ _ _) F.entry_str_find (F.args_str_find_4 _ _ _ _) (gives_find4 _ _ _ _ _ _ _ _ hk.1 hk.2.2.1 hk.2.2.2.1) (ends_int hG))
      · cases e
    · cases e
  · rw [mid6]
    obtain ⟨y, hy, k_⟩ := bsome e
    have hy := oneD_inv hy; subst hy
    clear e
    refine bC fun z_ => ?_
    (obtain ⟨v', r', rfl, r1, r2⟩ := rs.cons_iff) <;> refine z_ ?_ <;> clear z_
    have := r2.nil_iff; subst this
    cases y with
    | list l =>
      simp only [Rep] at r1; obtain ⟨a, vs, n, rfl, g, rr⟩ := r1
      obtain ⟨ys, e1, k2⟩ := bsome (show joinD x l = some q from k_)
      clear k_
      rcases ite_inv k2 with ⟨hk, e⟩ | ⟨_, e⟩
      · cases e
        have hb : big = 1000000 := rfl
        exact (join_list (items := vs) ⟨_, hG _ _ g, rfl, n, rfl⟩ (strs_of rr e1) (by omega) fun t' k => OkV.here hG (by simp only [Rep]; exact ⟨_, rfl⟩))
      · cases e
    | str y =>
      simp only [Rep] at r1; obtain ⟨u, rfl⟩ := r1
      rcases ite_inv k_ with ⟨hk, e⟩ | ⟨_, e⟩
      · cases e
        exact (SC.joinStr hh (joinOk_signsN hk.1 hk.2 (by decide)) fun h' k t' hk' => ⟨G, ExtE.grow hG hk', by simp only [Rep]; exact ⟨_, rfl⟩⟩)
      · cases e
    | _ => cases k_
end
end Mine
end

/- part E9 -/
section
open PySem PySem.W PyProof.Rows PySem.Calls PySem.Spec PyProof.V PySem.Builtin PySem.Builtin.Str
set_option maxRecDepth 10000
namespace Mine
section
variable {prog : Program} {w : World} {A : Around} {s : Shared} {G : PH} {E : Value → Shared → Prop}
theorem IntDict.of {o : Obj} {kvs : List (Int × Value)} (h : o.IsDictOf (intKind prog w) kvs) : IntDict o kvs := by
  refine bC fun z_ => ?_
  (obtain ⟨es, ep, d, e, k, p, n⟩ := h) <;> refine z_ ?_ <;> clear z_
  refine ⟨es, ep, d, e, ?_, n⟩
  have hk : ∀ e ∈ es.toList, ∃ k, (intKind prog w).is k e.key = true ∧ e.hash = (intKind prog w).hash k := fun e he => k e (Array.mem_toList_iff.mp he)
  clear e k n d
  generalize es.toList = L at p hk
  induction p with
  | nil => exact trivial
  | cons h1 h2 h3 ih =>
    refine bC fun z_ => ?_
    (obtain ⟨k', h4, h5⟩ := hk _ (.head _)) <;> refine z_ ?_ <;> clear z_
    obtain ⟨t, h6⟩ := Value.isInt_shape h1
    have := (intKind prog w).inj _ _ _ h1 h4
    subst this
    exact ⟨⟨t, h6⟩, h5, h2, ih fun e he => hk e (.tail _ he)⟩
theorem RepM.nil : RepM G [] [] := by simp only [RepM]
theorem RepM.cons {k : Int} {d : D} {v : Value} {ds : List (Int × D)} {vs : List (Int × Value)} (a : Rep G d v) (b : RepM G ds vs) : RepM G ((k, d) :: ds) ((k, v) :: vs) := by
  simp only [RepM]; exact ⟨v, vs, rfl, a, b⟩
theorem RepM.cons_iff {k : Int} {d : D} {ds : List (Int × D)} {vs : List (Int × Value)} (r : RepM G ((k, d) :: ds) vs) : ∃ v r', vs = (k, v) :: r' ∧ Rep G d v ∧ RepM G ds r' := by simpa only [RepM] using r
theorem RepM.nil_iff {vs : List (Int × Value)} (r : RepM G [] vs) : vs = [] := by simpa only [RepM] using r
/- the keys -/
theorem RepM.keysRep : ∀ {l : List (Int × D)} {kvs : List (Int × Value)} {vs : List Value}, RepM G l kvs → vs.length = kvs.length → (∀ (j : Nat) (v : Value), vs[j]? = some v → ∃ (k : Int) (x : Value), kvs[j]? = some (k, x) ∧ (intKind prog w).is k v = true) → RepL G (l.map fun p => .int p.1) vs
  | [], _, vs, r, e, _ => by
    have := r.nil_iff; subst this
    have : vs = [] := List.length_eq_zero_iff.mp e
    subst this; exact RepL.nil
  | (k, d) :: ds, _, vs, r, e, h => by
    refine bC fun z_ => ?_
    (obtain ⟨v, r', rfl, r1, r2⟩ := r.cons_iff) <;> refine z_ ?_ <;> clear z_
    cases vs with
    | nil => simp at e
    | cons a vs =>
      refine bC fun z_ => ?_
      (obtain ⟨k', x, h1, h2⟩ := h 0 a rfl) <;> refine z_ ?_ <;> clear z_
      simp only [List.getElem?_cons_zero, Option.some.injEq, Prod.mk.injEq] at h1
      obtain ⟨t, h3⟩ := Value.isInt_shape h2
      rw [List.map_cons]
      refine RepL.cons ?_ (r2.keysRep (by simpa using e) fun j v hv => by simpa using h (j + 1) v (by simpa using hv))
      simp only [Rep]; exact ⟨t, by rw [h3, h1.1]⟩
theorem maxL_spec : ∀ {ns : List Int} {M : Int}, maxL ns = some M → M ∈ ns ∧ ∀ a ∈ ns, a ≤ M
  | [], _, h => by cases h
  | a :: r, M, h => by
    simp only [maxL, Option.some.injEq] at h
    subst h
    have key : ∀ (r : List Int) (a : Int), (r.foldl (fun m x => if x > m then x else m) a = a ∨ r.foldl (fun m x => if x > m then x else m) a ∈ r) ∧ a ≤ r.foldl (fun m x => if x > m then x else m) a ∧ ∀ b ∈ r, b ≤ r.foldl (fun m x => if x > m then x else m) a := by
      intro r
      induction r with
      | nil => intro a; exact ⟨.inl rfl, Int.le_refl _, fun _ h => nomatch h⟩
      | cons b r ih =>
        intro a
        rw [List.foldl_cons]
        refine bC fun z_ => ?_
        (obtain ⟨h1, h2, h3⟩ := ih (if b > a then b else a)) <;> refine z_ ?_ <;> clear z_
        have h4 : b ≤ if b > a then b else a := by split <;> omega
        have h5 : a ≤ if b > a then b else a := by split <;> omega
        refine ⟨?_, Int.le_trans h5 h2, fun c hc => ?_⟩
        · rcases h1 with h1 | h1
          · rw [h1]
            by_cases q : b > a
            · rw [if_pos q]; exact .inr (.head _)
            · rw [if_neg q]; exact .inl rfl
          · exact .inr (.tail _ h1)
        · cases hc with
          | head => exact Int.le_trans h4 h2
          | tail _ hc => exact h3 c hc
    refine bC fun z_ => ?_
    (obtain ⟨h1, h2, h3⟩ := key r a) <;> refine z_ ?_ <;> clear z_
    refine ⟨?_, fun b hb => ?_⟩
    · rcases h1 with h1 | h1
      · rw [h1]; exact .head _
      · exact .tail _ h1
    · cases hb with
      | head => exact h2
      | tail _ hb => exact h3 b hb
end
section
variable {U : U0} {l : Nat} {C : Cx} {Z : Zz}
theorem Snd.meth {o : Expr} {name : Str} {apos pos : Pos} {es : List Expr} {x : X} {xs : List X} (pl : Env → Sem Bool) (h : Snd U l C Z o x) (hs : SndL U l C Z es xs) (hp : allPlain es = true) (hne : es ≠ [])
    (he : ∀ env, eval (.Call (.Attribute o name apos) es [] pos) env = (do
      let ov ← eval o env
      standAt apos.atName
      let (f, first) ← holding [ov] (getMethod ov name (pl env))
      callWith pos f first (backTo pos (starEach es env)) [])) : Snd U l C Z (.Call (.Attribute o name apos) es [] pos) (.meth name x xs) := by
  intro A env s G r d hE hR hB R q
  obtain ⟨d1, q1, k_⟩ := bsome q
  obtain ⟨ds, q2, q⟩ := bsome k_
  refine MethodCall_ (pl := pl env) ((h A env s G r d1 hE hR hB R q1).use fun v s1 G1 x1 r1 => ?_) (he env)
  refine meth_get r1 q _ _ _ _ ?_
  refine callWith_builtin (plain_any hp) (evalArgs_all hp hne (more_args hs hE hR (hB.keeps x1.keep) (R.ext x1) q2 fun vs s2 G2 x2 r2 => ?_))
  exact OkV.pre (x1.trans x2) (meth_ok hR.hand x2.sub (r1.mono x2.le) r2 q)
theorem Snd.isinst {nm tn : Str} {T : String} {e : Expr} {x : X} {k : KI} {p p' pos : Pos} (b : BltIn U Z nm (.builtin "isinstance")) (b' : BltIn U Z tn (.type T)) (hk : T = (match k with | .int => "int" | .bool => "bool" | .tuple => "tuple")) (h : Snd U l C Z e x) (hp : notStar e = true) :
    Snd U l C Z (.Call (.Name nm p) [e, .Name tn p'] [] pos) (.isinst x k) := by
  intro A env s G r d hE hR hB R q
  obtain ⟨d1, e1, q⟩ := bsome q
  refine blt_call b hE hB (by unfold allPlain; rw [hp]; rfl) (by simp) (wpAny_items_cons ((h A env s G r d1 hE hR hB R e1).use fun v s' G' x1 r1 => ?_) (starEach_plain hp))
  refine wpAny_items_cons (blt_name b' hE (hB.keeps x1.keep) (wpAny_items_nil ?_)) (starEach_plain rfl)
  have fin : ∀ {c : Bool} {tk : Nat}, ∃ G'', ExtE s { s' with toks := tk } G G'' ∧ Rep G'' (.bool c) (.bool c) := fun {c tk} => ⟨G', x1.trans (ExtE.toks x1.sub), by simp only [Rep]⟩
  subst hk
  cases d1 with
  | int i =>
    obtain ⟨t, rfl⟩ := Rep.int_iff r1
    cases k <;> cases q
    · exact call_isinstance_yes (typeIs_int _ _ _) meta_int sub_int_int (fin (tk := s'.toks))
    · exact PySem.call_isinstance (isinstance_false_int (by decide) meta_bool sub_int_bool) fin
    · exact PySem.call_isinstance (isinstance_false_int (by decide) meta_tuple sub_int_tuple) fin
  | tup l =>
    obtain ⟨a, vs, n, rfl, g, r2⟩ := Rep.tup_iff r1
    cases k <;> cases q
    exact call_isinstance_yes (Tx := "tuple") ⟨_, x1.sub _ _ g, rfl⟩ meta_tuple sub_tuple_tuple (fin (tk := s'.toks))
  | _ => exact nope q
theorem Snd.tupleOf {nm : Str} {e : Expr} {x : X} {p pos : Pos} (b : BltIn U Z nm (.type "tuple")) (h : Snd U l C Z e x) (hp : notStar e = true) : Snd U l C Z (.Call (.Name nm p) [e] [] pos) (.tupleOf x) := by
  intro A env s G r d hE hR hB R q
  obtain ⟨d1, e1, q⟩ := bsome q
  refine typ_call b hE hB (one_plain hp) (by simp) (one_arg h hp hE hR hB R e1 fun v s' G' x1 r1 => ?_)
  obtain ⟨l0, h_, q⟩ := bsome q
  rw [asL_inv h_] at r1
  clear h_
  refine bC fun z_ => ?_
  (obtain ⟨a, vs, n, rfl, g, r2⟩ := Rep.list_iff r1) <;> refine z_ ?_ <;> clear z_
  obtain ⟨hl, rfl⟩ := lenOk_some q
  have hsz := r2.length; rw [Array.length_toList] at hsz
  refine call_tuple_list ⟨_, x1.sub _ _ g, rfl, n, rfl⟩ (fun h' hk => ?_) (by rw [hsz]; exact Nat.le_trans hl big_line)
  have x2 := ExtE.grow (tk := s'.toks) x1.sub hk
  refine ⟨_, (x1.trans x2).trans (ExtE.push (o := tupO vs 0) (tk := s'.toks) x2.sub rfl), ?_⟩
  simp only [Rep]
  exact ⟨_, _, _, rfl, PH.put_self _ _ _, r2.mono (ExtE.push (o := tupO vs 0) (tk := s'.toks) x2.sub rfl).le⟩
theorem Snd.max {nm : Str} {e : Expr} {x : X} {p pos : Pos} (b : BltIn U Z nm (.builtin "max")) (h : Snd U l C Z e x) (hp : notStar e = true) : Snd U l C Z (.Call (.Name nm p) [e] [] pos) (.max x) := by
  intro A env s G r d hE hR hB R q
  obtain ⟨d1, e1, q⟩ := bsome q
  refine blt_call b hE hB (one_plain hp) (by simp) (one_arg h hp hE hR hB R e1 fun v s' G' x1 r1 => ?_)
  obtain ⟨l0, h_, q⟩ := bsome q
  rw [asL_inv h_] at r1
  clear h_
  refine bC fun z_ => ?_
  (obtain ⟨a, vs, n, rfl, g, r2⟩ := Rep.list_iff r1) <;> refine z_ ?_ <;> clear z_
  simp only [Option.bind_eq_some_iff, Option.map_eq_some_iff] at q
  refine bC fun z_ => ?_
  (obtain ⟨ns, e2, M, e3, rfl⟩ := q) <;> refine z_ ?_ <;> clear z_
  have hi := ints_of r2 e2
  obtain ⟨m1, m2⟩ := maxL_spec e3
  have ha := hi.allInts
  have hn := hi.numsOf
  simp only [Array.toArray_toList] at ha
  obtain ⟨xs, rfl⟩ := ha.items
  rw [nums_intItems] at hn
  have hlen : xs.size = ns.length := by rw [← hn]; simp
  have hpos : 0 < ns.length := List.length_pos_of_mem m1
  refine max_intList hR.hand ⟨_, x1.sub _ _ g, rfl, n, rfl⟩ (by omega) fun v h' tk hv hk => ?_
  obtain ⟨g1, g2⟩ := argBest_gt (numAt xs) (xs.size - 1)
  obtain ⟨t, rfl⟩ := intItems_at hv
  have m3 : numAt xs (argBest (fun i j => decide (numAt xs i > numAt xs j)) (xs.size - 1)) ∈ ns := by
    rw [← hn, numAt_eq]; exact getD_mem (by rw [List.length_map, Array.length_toList]; omega)
  have m4 : M ≤ numAt xs (argBest (fun i j => decide (numAt xs i > numAt xs j)) (xs.size - 1)) := by
    rw [← hn] at m1
    refine bC fun z_ => ?_
    (obtain ⟨j, hj, rfl⟩ := mem_getD m1) <;> refine z_ ?_ <;> clear z_
    rw [List.length_map, Array.length_toList] at hj
    rw [← numAt_eq]; exact g2 j (by omega)
  rw [Int.le_antisymm (m2 _ m3) m4]
  exact ⟨G', x1.trans (ExtE.grow x1.sub hk), by simp only [Rep]; exact ⟨_, rfl⟩⟩
theorem Snd.dictOf {nm : Str} {e : Expr} {x : X} {p pos : Pos} (b : BltIn U Z nm (.type "dict")) (h : Snd U l C Z e x) (hp : notStar e = true) : Snd U l C Z (.Call (.Name nm p) [e] [] pos) (.dictOf x) := by
  intro A env s G r d hE hR hB R q
  obtain ⟨d1, e1, q⟩ := bsome q
  refine typ_call b hE hB (one_plain hp) (by simp) (one_arg h hp hE hR hB R e1 fun v s' G' x1 r1 => ?_)
  obtain ⟨l0, h_, q⟩ := bsome q
  rw [asM_inv h_] at r1
  clear h_
  refine bC fun z_ => ?_
  (obtain ⟨a, o, kvs, rfl, g, i, z, r2⟩ := Rep.dict_iff r1) <;> refine z_ ?_ <;> clear z_
  obtain ⟨hl, q⟩ := isome q
  cases q
  have hb : big = 1000000 := rfl
  have hsl := sizeLine_eq
  have hlen := r2.length
  refine kt_call_dict (knd := intKind U.prog U.w) z (i.at (x1.sub _ _ g)) (by omega) fun h' hm hs => ?_
  refine bC fun z_ => ?_
  (obtain ⟨o', ho', hd'⟩ := Heap.dictOf_iff.mp hm) <;> refine z_ ?_ <;> clear z_
  have hk : ∀ b ob, s'.heap.get? b = some ob → h'.get? b = some ob := fun b ob e => hs.extBut _ _ (Nat.ne_of_lt (Heap.lt_size e)) (Heap.get?_push_of_some _ e)
  have x2 := ExtE.grow (tk := s'.toks) x1.sub hk
  have h0 : s'.heap.get? s'.heap.objs.size = .none := fresh_none (Nat.le_refl _)
  have x3 := x2.keepNew h0 (PH.fresh x1.sub h0) ho'
  refine ⟨_, x1.trans x3, ?_⟩
  simp only [Rep]
  exact ⟨_, _, kvs, rfl, PH.put_self _ _ _, .of hd', (hB.keeps x1.keep).notModules, r2.mono x3.le⟩
/- a display of a dict: a new object -/
noncomputable def SndN (U : U0) (l : Nat) (C : Cx) (Z : Zz) (e : Expr) (x : X) : Prop :=
  ∀ (A : Around) (env : Env) (s : Shared) (G : PH) (r : Rho) (d : D), EnvOk Z env → Room A l → U.Base s.heap → SRel Z env r G s.heap → ev C r x = some d → OkN U.prog U.w A (eval e env) s G d
theorem SndN.dict0 {pos : Pos} : SndN U l C Z (.Dict [] [] pos) .dict0 := by
  intro A env s G r d hE hR hB R q
  have q := Option.some.inj q; subst q
  refine wpAny_Dict_empty ⟨G, s.heap.objs.size, ExtE.push' R.gle, ⟨_, _, [], rfl, Heap.get?_push_size _ rfl, ⟨#[], 0, ⟨rfl, rfl, rfl⟩, rfl, trivial, by simp⟩, hB.notModules, RepM.nil⟩, rfl, fresh_none (Nat.le_refl _), PH.fresh R.gle (fresh_none (Nat.le_refl _)), rfl⟩
theorem SndN.list {es : List Expr} {xs : List X} {pos : Pos} (h : SndL U l C Z es xs) : SndN U l C Z (.List es pos) (.list xs) := by
  intro A env s G r d hE hR hB R q
  obtain ⟨ds, qd, q⟩ := bsome q
  obtain ⟨hl, rfl⟩ := lenOk_some q
  refine wpAny_List (wpAny_mono (h A env s G r ds pos hE hR hB R qd) (fun vs s' ⟨G', x1, r1⟩ => ⟨?_, ?_⟩) fun _ _ f => f)
  · rw [r1.length]; exact Nat.le_trans hl big_line
  · have h0 : s'.heap.get? s'.heap.objs.size = .none := fresh_none (Nat.le_refl _)
    have h1 : s.heap.get? s'.heap.objs.size = .none := x1.keep.dead h0
    exact ⟨G', s'.heap.objs.size, x1.trans (ExtE.push' x1.sub), ⟨_, _, _, rfl, Heap.get?_push_size _ rfl, r1⟩, rfl, h1, PH.fresh x1.sub h0, rfl⟩
theorem Snd.dict1 {k v : Expr} {x y : X} {pos : Pos} (h1 : Snd U l C Z k x) (h2 : Snd U l C Z v y) : Snd U l C Z (.Dict [some k] [v] pos) (.dict1 x y) := by
  intro A env s G r d hE hR hB R q
  obtain ⟨d1, e1, k_⟩ := bsome q
  obtain ⟨d2, e2, q⟩ := bsome k_
  obtain ⟨i, h_, q⟩ := bsome q
  have h_ := asI_inv h_; subst h_
  cases q
  have h0 : s.heap.get? s.heap.objs.size = .none := fresh_none (Nat.le_refl _)
  have hg := PH.fresh R.gle h0
  have x0 := ExtE.push' (s := s) (G := G) (o := { cls := .type "dict", data := .dict #[] }) R.gle
  refine wpAny_Dict_walk (knd := intKind U.prog U.w) rfl rfl (by simp) (by simp) ?_
  refine pairTrees_cons_walk ((h1 A env _ G r _ hE hR (hB.keeps x0.keep) (R.ext x0) e1).use fun v1 s1 G1 x1 r1 => (h2 A env s1 G1 r d2 hE hR ((hB.keeps x0.keep).keeps x1.keep) ((R.ext x0).ext x1) e2).use fun v2 s2 G2 x2 r2 => pairTrees_nil_walk ?_)
  obtain ⟨t, rfl⟩ := Rep.int_iff r1
  have hnew : s2.heap.get? s.heap.objs.size = some { cls := .type "dict", data := .dict #[] } := x2.keep.kp _ _ (hB.np h0) (x1.keep.kp _ _ (hB.np h0) (Heap.get?_push_size _ rfl))
  have hg2 : G2 s.heap.objs.size = .none := by
    rw [x2.old _ (x1.keep.live (by rw [Heap.get?_push_size _ rfl]; rfl)), x1.old _ (by rw [Heap.get?_push_size _ rfl]; rfl)]; exact hg
  refine ⟨[(i, v2)], ⟨beq_self_eq_true i, rfl, trivial⟩, ⟨_, #[], 0, hnew, ⟨rfl, rfl, rfl⟩, rfl, fun e he => by simp at he, .nil, by simp⟩, fun h' hm hs => ?_⟩
  have hmm : merged [] [(i, v2)] = [(i, v2)] := by simp [merged, stored]
  rw [hmm] at hm
  refine bC fun z_ => ?_
  (obtain ⟨o', ho', hd'⟩ := Heap.dictOf_iff.mp hm) <;> refine z_ ?_ <;> clear z_
  have x12 := (x0.trans x1).trans x2
  have x3 : ExtE s { s2 with heap := h', toks := s2.toks + [((Value.int i t), v2)].length } G (G2.put s.heap.objs.size o') := by
    refine ⟨x12.keep.step fun b ob e e' => hs.extBut _ _ (fun q => by rw [q, h0] at e; cases e) e', x12.le.trans (PH.le_put hg2), fun b ob e => ?_, fun b h => ?_, x12.os, x12.gens⟩
    · by_cases q : b = s.heap.objs.size
      · subst q; rw [PH.put_self] at e; cases e; exact ho'
      · simp only [PH.put, q, if_false] at e; exact hs.extBut _ _ q (x2.sub _ _ e)
    · have : b ≠ s.heap.objs.size := fun q => by rw [q, h0] at h; cases h
      simp only [PH.put, this, if_false]; exact x12.old b h
  refine ⟨_, x3, ?_⟩
  simp only [Rep]
  exact ⟨_, _, [(i, v2)], rfl, PH.put_self _ _ _, .of hd', hB.notModules, RepM.cons (r2.mono (PH.le_put hg2)) RepM.nil⟩
end
end Mine
end

/- part EA -/
section
open PySem PySem.W PyProof.Rows PySem.Calls PySem.Spec PyProof.V PySem.Builtin PySem.Builtin.Str
set_option maxRecDepth 10000
namespace Mine
/- an iterator that gives these data -/
noncomputable def ItW (prog : Program) (w : World) (A : Around) (it : Value) (ds : List D) (s₀ s : Shared) (G : PH) : Prop :=
  ∃ (I : Addr) (fp wr : List Addr) (P : Nat → Value → Prop) (St : Nat → Heap → Prop), it = .ref I ∧ Walks prog w A I fp wr ds.length P St ∧ St 0 s.heap ∧ (∀ b ∈ fp, b < s.heap.objs.size) ∧
    (∀ b ∈ wr, s₀.heap.get? b = none ∧ G b = none) ∧ (∀ b ∈ fp, b ∈ wr ∨ (∃ o, G b = some o)) ∧ (∀ (i : Nat) (v : Value) (d : D), ds[i]? = some d → P i v → Rep G d v) ∧ (∀ i h, St i h → ∀ b ∈ wr, (h.get? b).isSome = true)
section
variable {prog : Program} {w : World} {A : Around} {s : Shared} {G : PH} {E : Value → Shared → Prop}
theorem ne_size {a : Addr} {o : Obj} (h : s.heap.get? a = some o) : a ≠ s.heap.objs.size := Nat.ne_of_lt (Heap.lt_size h)
theorem lt_push {o : Obj} {b : Addr} (h : b ≤ s.heap.objs.size) : b < (s.heap.push o).objs.size := by rw [Heap.size_push]; exact Nat.lt_succ_of_le h
theorem iter_ok {d : D} {ds : List D} {v : Value} (hh : A.handled = none) (hG : ∀ a o, G a = some o → s.heap.get? a = some o) (r : Rep G d v) (e : iterD d = some ds) {s₀ : Shared} (h0 : Kp s₀.heap s.heap) :
    wpAny (model prog w) A (pyIter v) (fun it s' => ∃ G', ExtE s s' G G' ∧ ItW prog w A it ds s₀ s' G') (fun _ _ => False) s := by
  have fr : s₀.heap.get? s.heap.objs.size = none := h0.dead (fresh_none (Nat.le_refl _))
  have gf : G s.heap.objs.size = none := PH.fresh hG (fresh_none (Nat.le_refl _))
  have W1 : ∀ b ∈ [s.heap.objs.size], s₀.heap.get? b = none ∧ G b = none := fun b hb => by rw [List.mem_singleton.mp hb]; exact ⟨fr, gf⟩
  cases d with
  | list l =>
    cases e
    refine bC fun z_ => ?_
    (obtain ⟨a, vs, n, rfl, g, r2⟩ := Rep.list_iff r) <;> refine z_ ?_ <;> clear z_
    have hl := r2.length; rw [Array.length_toList] at hl
    have hIL : s.heap.IsList a vs := ⟨_, hG _ _ g, rfl, n, rfl⟩
    refine wpAny_pyIter_list hIL ⟨G, ExtE.push' hG, s.heap.objs.size, [s.heap.objs.size, a], [s.heap.objs.size], fun i v => vs[i]? = some v, fun i h => h.IsListIter s.heap.objs.size a i ∧ h.IsList a vs, rfl, by rw [← hl]; exact Walks.list hh _ a (ne_size (hG _ _ g)) vs,
      ⟨⟨_, Heap.get?_push_size _ rfl, rfl, rfl⟩, hIL.push _⟩, ?_, W1, ?_, ?_, ?_⟩
    · intro b hb
      rcases List.mem_cons.mp hb with rfl | hb
      · exact lt_push (Nat.le_refl _)
      · rw [List.mem_singleton.mp hb]; exact lt_push (Nat.le_of_lt (Heap.lt_size (hG _ _ g)))
    · intro b hb
      rcases List.mem_cons.mp hb with rfl | hb
      · exact .inl (.head _)
      · rw [List.mem_singleton.mp hb]; exact .inr ⟨_, g⟩
    · intro i v d hd hv
      refine bC fun z_ => ?_
      (obtain ⟨v', hv', rv⟩ := r2.get hd) <;> refine z_ ?_ <;> clear z_
      rw [Array.getElem?_toList] at hv'
      rw [hv'] at hv; cases hv; exact rv
    · intro i h st b hb
      rw [List.mem_singleton.mp hb]
      refine bC fun z_ => ?_
      (obtain ⟨⟨o, ho, _⟩, _⟩ := st) <;> refine z_ ?_ <;> clear z_
      rw [ho]; rfl
  | tup l =>
    cases e
    refine bC fun z_ => ?_
    (obtain ⟨a, vs, n, rfl, g, r2⟩ := Rep.tup_iff r) <;> refine z_ ?_ <;> clear z_
    have hl := r2.length; rw [Array.length_toList] at hl
    have hIL : s.heap.IsTuple a vs := ⟨_, hG _ _ g, rfl, n, rfl⟩
    refine wpAny_pyIter_tuple hIL ⟨G, ExtE.push' hG, s.heap.objs.size, [s.heap.objs.size, a], [s.heap.objs.size], fun i v => vs[i]? = some v, fun i h => h.IsTupleIter s.heap.objs.size a i ∧ h.IsTuple a vs, rfl, by rw [← hl]; exact Walks.tuple hh _ a (ne_size (hG _ _ g)) vs,
      ⟨⟨_, Heap.get?_push_size _ rfl, rfl, rfl⟩, hIL.at fun o e => Heap.get?_push_of_some _ e⟩, ?_, W1, ?_, ?_, ?_⟩
    · intro b hb
      rcases List.mem_cons.mp hb with rfl | hb
      · exact lt_push (Nat.le_refl _)
      · rw [List.mem_singleton.mp hb]; exact lt_push (Nat.le_of_lt (Heap.lt_size (hG _ _ g)))
    · intro b hb
      rcases List.mem_cons.mp hb with rfl | hb
      · exact .inl (.head _)
      · rw [List.mem_singleton.mp hb]; exact .inr ⟨_, g⟩
    · intro i v d hd hv
      refine bC fun z_ => ?_
      (obtain ⟨v', hv', rv⟩ := r2.get hd) <;> refine z_ ?_ <;> clear z_
      rw [Array.getElem?_toList] at hv'
      rw [hv'] at hv; cases hv; exact rv
    · intro i h st b hb
      rw [List.mem_singleton.mp hb]
      refine bC fun z_ => ?_
      (obtain ⟨⟨o, ho, _⟩, _⟩ := st) <;> refine z_ ?_ <;> clear z_
      rw [ho]; rfl
  | dict m =>
    cases e
    refine bC fun z_ => ?_
    (obtain ⟨a, o, kvs, rfl, g, i, z, r2⟩ := Rep.dict_iff r) <;> refine z_ ?_ <;> clear z_
    have hl := r2.length
    obtain ⟨ep, hat⟩ := (i.at (prog := prog) (w := w) (hG _ _ g)).dictAt
    refine wpAny_pyIter_dict z hat ⟨G, ExtE.push' hG, s.heap.objs.size, [s.heap.objs.size, a], [s.heap.objs.size], fun i v => ∃ k x, kvs[i]? = some (k, x) ∧ (intKind prog w).is k v = true, fun i h => h.IsKeyIter s.heap.objs.size a i kvs.length ep ∧ h.DictAt (intKind prog w) a kvs ep, rfl, by rw [List.length_map, ← hl]; exact Walks.dictKeys (knd := intKind prog w) hh _ a (ne_size (hG _ _ g)) kvs ep,
      ⟨⟨_, Heap.get?_push_size _ rfl, rfl, rfl⟩, hat.push _⟩, ?_, W1, ?_, ?_, ?_⟩
    · intro b hb
      rcases List.mem_cons.mp hb with rfl | hb
      · exact lt_push (Nat.le_refl _)
      · rw [List.mem_singleton.mp hb]; exact lt_push (Nat.le_of_lt (Heap.lt_size (hG _ _ g)))
    · intro b hb
      rcases List.mem_cons.mp hb with rfl | hb
      · exact .inl (.head _)
      · rw [List.mem_singleton.mp hb]; exact .inr ⟨_, g⟩
    · intro i v d hd ⟨k, x, hk, hv⟩
      obtain ⟨t, rfl⟩ := Value.isInt_shape hv
      rw [List.getElem?_map, Option.map_eq_some_iff] at hd
      refine bC fun z_ => ?_
      (obtain ⟨p, hp, rfl⟩ := hd) <;> refine z_ ?_ <;> clear z_
      have h1 := congrArg (·[i]?) r2.keys
      simp only [List.getElem?_map, hk, hp, Option.map_some, Option.some.injEq] at h1
      simp only [Rep]; exact ⟨t, by rw [← h1]⟩
    · intro i h st b hb
      rw [List.mem_singleton.mp hb]
      refine bC fun z_ => ?_
      (obtain ⟨⟨o, ho, _⟩, _⟩ := st) <;> refine z_ ?_ <;> clear z_
      rw [ho]; rfl
  | str x =>
    obtain ⟨hk, e⟩ := isome (show (if x.length ≤ 1000 ∧ x.cps.all (· < 128) then some (charsD x) else .none) = some ds from e)
    cases e
    obtain ⟨t, rfl⟩ := Rep.str_iff r
    refine wpAny_pyIter_ascii hk.2 ⟨G, ExtE.push' hG, s.heap.objs.size, [s.heap.objs.size], [s.heap.objs.size], SignAt x, fun i h => h.IsStrIter s.heap.objs.size "str_ascii_iterator" x t i, rfl, by
        rw [show (charsD x).length = x.cps.size from by simp [charsD, signs]]; exact Walks.strAscii hh _ x t,
      ⟨_, Heap.get?_push_size _ rfl, rfl, rfl⟩, ?_, W1, fun b hb => .inl hb, ?_, ?_⟩
    · intro b hb; rw [List.mem_singleton.mp hb]; exact lt_push (Nat.le_refl _)
    · intro i v d hd ⟨c, u, hc, hv⟩
      subst hv
      simp only [charsD, signs, List.getElem?_map, Option.map_eq_some_iff] at hd
      refine bC fun z_ => ?_
      (obtain ⟨y, ⟨c', hc', rfl⟩, rfl⟩ := hd) <;> refine z_ ?_ <;> clear z_
      rw [Array.getElem?_toList, hc] at hc'
      cases hc'
      simp only [Rep]; exact ⟨u, rfl⟩
    · intro i h st b hb
      rw [List.mem_singleton.mp hb]
      refine bC fun z_ => ?_
      (obtain ⟨o, ho, _⟩ := st) <;> refine z_ ?_ <;> clear z_
      rw [ho]; rfl
  | _ => exact nope e
theorem iter_range {n : Int} {t : Tok} (hh : A.handled = none) (hG : ∀ a o, G a = some o → s.heap.get? a = some o) (h1 : 0 ≤ n) (h2 : n ≤ 1000) {s₀ : Shared} (h0 : Kp s₀.heap s.heap) {r : Addr} {t₁ u₁ v₁ : Tok} (hr : IsRange s.heap r 0 n 1 t₁ u₁ v₁) :
    wpAny (model prog w) A (pyIter (.ref r)) (fun it s' => ∃ G', ExtE s s' G G' ∧ ItW prog w A it ((List.range n.toNat).map fun (k : Nat) => .int k) s₀ s' G') (fun _ _ => False) s := by
  have fr : s₀.heap.get? s.heap.objs.size = none := h0.dead (fresh_none (Nat.le_refl _))
  have gf : G s.heap.objs.size = none := PH.fresh hG (fresh_none (Nat.le_refl _))
  have W1 : ∀ b ∈ [s.heap.objs.size], s₀.heap.get? b = none ∧ G b = none := fun b hb => by rw [List.mem_singleton.mp hb]; exact ⟨fr, gf⟩
  have hs : Builtin.Range.small 0 n 1 = true := small_one (by omega) (by omega) (by omega) (by omega)
  have hn : Builtin.Range.rangeSize 0 n 1 = (n.toNat : Int) := by rw [rangeSize_nat]; simp
  refine wpAny_pyIter_range hr hs ⟨G, ExtE.push' hG, s.heap.objs.size, [s.heap.objs.size], [s.heap.objs.size], fun i v => ∃ t, v = .int (0 + i * 1) t, fun i h => IsRangeIter h s.heap.objs.size (0 + (i : Nat) * 1) ((n.toNat : Int) - (i : Nat)) 1, rfl, by
      rw [List.length_map, List.length_range]; exact Walks.range hh _ 0 1 n.toNat, by rw [hn]; show IsRangeIter _ _ _ _ _; simpa using Heap.get?_push_size _ rfl, ?_, W1, fun b hb => .inl hb, ?_, ?_⟩
  · intro b hb; rw [List.mem_singleton.mp hb]; exact lt_push (Nat.le_refl _)
  · intro i v d hd ⟨t, hv⟩
    subst hv
    rw [List.getElem?_map, Option.map_eq_some_iff] at hd
    refine bC fun z_ => ?_
    (obtain ⟨k, hk, rfl⟩ := hd) <;> refine z_ ?_ <;> clear z_
    have := List.getElem?_eq_some_iff.mp hk
    obtain ⟨q, hq⟩ := this
    rw [List.getElem_range] at hq
    subst hq
    simp only [Rep]; exact ⟨t, by simp⟩
  · intro i h st b hb
    rw [List.mem_singleton.mp hb]
    have st' : IsRangeIter _ _ _ _ _ := st
    unfold IsRangeIter at st'
    rw [st']; rfl
end
section
variable {U : U0} {l : Nat} {C : Cx} {Z : Zz}
/- what is gone through, each item a name -/
noncomputable def SndI (U : U0) (l : Nat) (C : Cx) (Z : Zz) (e : Expr) (x : I) : Prop :=
  ∀ (A : Around) (env : Env) (s : Shared) (G : PH) (r : Rho) (ds : List D), EnvOk Z env → Room A l → U.Base s.heap → SRel Z env r G s.heap → evI C r x = some ds →
    wpAny (model U.prog U.w) A (eval e env) (fun xv s₁ => wpAny (model U.prog U.w) A (pyIter xv) (fun it s₂ => ∃ G₂, ExtE s s₂ G G₂ ∧ ItW U.prog U.w A it ds s s₂ G₂) (fun _ _ => False) s₁) (fun _ _ => False) s
theorem SndI.plain {e : Expr} {x : X} (h : Snd U l C Z e x) : SndI U l C Z e (.plain x) := by
  intro A env s G r ds hE hR hB R q
  obtain ⟨d, e1, q⟩ := bsome q
  exact (h A env s G r d hE hR hB R e1).use fun v s' G' x1 r1 => wpAny_mono (iter_ok hR.hand x1.sub r1 q x1.keep) (fun it s'' ⟨G'', x2, i⟩ => ⟨G'', x1.trans x2, i⟩) fun _ _ f => f
theorem SndI.range {nm : Str} {e : Expr} {x : X} {p pos : Pos} (b : BltIn U Z nm (.type "range")) (h : Snd U l C Z e x) (hp : notStar e = true) : SndI U l C Z (.Call (.Name nm p) [e] [] pos) (.range x) := by
  intro A env s G r ds hE hR hB R q
  obtain ⟨d1, e1, q⟩ := bsome q
  refine typ_call b hE hB (one_plain hp) (by simp) (one_arg h hp hE hR hB R e1 fun v s' G' x1 r1 => ?_)
  refine bC fun z_ => ?_
  (obtain ⟨n, h_, q⟩ := bsome q; rw [asI_inv h_] at r1; obtain ⟨hk, q⟩ := isome q; obtain ⟨t, rfl⟩ := Rep.int_iff r1) <;> refine z_ ?_ <;> clear z_
  · · cases q
      refine call_range_1 ?_
      have x2 : ExtE s' { s' with heap := s'.heap.push { cls := .type "range", data := .fields #[.int 0 s'.toks, .int n t, .int 1 (s'.toks + 1)] }, toks := s'.toks + 1 + 1 } G' G' := ExtE.grow x1.sub fun _ _ e => Heap.get?_push_of_some _ e
      refine wpAny_mono (iter_range hR.hand x2.sub hk.1 hk.2 (s₀ := s) (x1.keep.trans x2.keep) (IsRange.new ..) (t := t)) (fun it s'' ⟨G'', x3, i⟩ => ⟨G'', (x1.trans x2).trans x3, i⟩) fun _ _ f => f
end
end Mine
end

/- part EB -/
section
open PySem PySem.W PyProof.Rows PySem.Calls PySem.Spec PyProof.V PySem.Builtin PySem.Builtin.Str
set_option maxRecDepth 10000
namespace Mine
noncomputable def relabelS (scope sc : Scope) : Scope :=
  { scope with names := scope.names.map fun (n, k) => if (k == .free && sc.kind == .function && sc.names.lookup n == some .cell) then (n, .cell) else (n, k) }
theorem relabel_eq {scope : Scope} {env : Env} {sc : Scope} (h : env.scope = sc) : relabel scope env = relabelS scope sc := by
  subst h; rfl
noncomputable def clOf (cs : List (Str × Addr)) : List (Str × NameKind) → List (Str × Addr) → List (Str × Addr)
  | [], acc => acc
  | (n, k) :: r, acc => clOf cs r (if k == .free then (n, (cs.lookup n).getD 0) :: acc else acc)
theorem closureFor_eq {scope : Scope} {env : Env} (h : ∀ x ∈ scope.names, x.2 = .free → ∃ c, env.cells.lookup x.1 = some c) : closureFor scope env = pure (clOf env.cells scope.names []) := by
  unfold closureFor
  have key : ∀ (names : List (Str × NameKind)) (acc : List (Str × Addr)), (∀ x ∈ names, x.2 = .free → ∃ c, env.cells.lookup x.1 = some c) →
      (forIn names acc fun x r => match x with | (name, kind) => if (kind == NameKind.free) = true then (do let a ← cellOf env name; pure (ForInStep.yield ((name, a) :: r))) else pure (ForInStep.yield r) : Sem (List (Str × Addr))) = pure (clOf env.cells names acc) := by
    intro names
    induction names with
    | nil => intro acc _; rfl
    | cons p r ih =>
      obtain ⟨n, k⟩ := p
      intro acc hf
      rw [List.forIn_cons]
      unfold clOf
      by_cases hk : (k == NameKind.free) = true
      · obtain ⟨c, hc⟩ := hf (n, k) (.head _) (by simpa using hk)
        dsimp only at hc
        simp only [hk, if_true, cellOf, hc, Option.getD_some]
        exact ih _ fun x hx => hf x (.tail _ hx)
      · simp only [hk, if_false]
        exact ih _ fun x hx => hf x (.tail _ hx)
  have := key scope.names [] h
  simpa using this
theorem clOf_lookup {cs : List (Str × Addr)} {x : Str} {c : Addr} (hc : cs.lookup x = some c) : ∀ (names : List (Str × NameKind)) (acc : List (Str × Addr)),
    ((x, NameKind.free) ∈ names ∨ acc.lookup x = some c) → (clOf cs names acc).lookup x = some c
  | [], acc, h => by
    rcases h with h | h
    · cases h
    · exact h
  | (n, k) :: r, acc, h => by
    unfold clOf
    refine clOf_lookup hc r _ ?_
    by_cases hk : (k == NameKind.free) = true
    · rw [if_pos hk]
      by_cases hx : x = n
      · subst hx; right; rw [List.lookup_cons, beq_self_eq_true]; simp [hc]
      · rcases h with h | h
        · rcases List.mem_cons.mp h with e | h
          · cases e; exact absurd rfl hx
          · exact .inl h
        · right; rw [List.lookup_cons, show (x == n) = false from beq_eq_false_iff_ne.mpr hx]; exact h
    · rw [if_neg hk]
      rcases h with h | h
      · rcases List.mem_cons.mp h with e | h
        · cases e; simp at hk
        · exact .inl h
      · exact .inr h
theorem mem_of_lookup {α : Type} {x : Str} {k : α} : ∀ {l : List (Str × α)}, l.lookup x = some k → (x, k) ∈ l
  | [], h => by cases h
  | (n, k') :: r, h => by
    rw [List.lookup_cons] at h
    by_cases q : x = n
    · subst q; simp at h; subst h; exact .head _
    · rw [show (x == n) = false from beq_eq_false_iff_ne.mpr q] at h; exact .tail _ (mem_of_lookup h)
theorem relabelS_lookup {scope sc : Scope} {x : Str} : (relabelS scope sc).names.lookup x = (scope.names.lookup x).map fun k => if (k == .free && sc.kind == .function && sc.names.lookup x == some .cell) then .cell else k := by
  unfold relabelS
  dsimp only
  induction scope.names with
  | nil => rfl
  | cons p r ih =>
    obtain ⟨n, k⟩ := p
    rw [List.map_cons]
    dsimp only
    by_cases q : x = n
    · subst q
      by_cases hk : (k == NameKind.free && sc.kind == .function && sc.names.lookup x == some .cell) = true
      · rw [if_pos hk, List.lookup_cons, List.lookup_cons, beq_self_eq_true]; dsimp only; rw [Option.map_some, if_pos hk]
      · rw [if_neg hk, List.lookup_cons, List.lookup_cons, beq_self_eq_true]; dsimp only; rw [Option.map_some, if_neg hk]
    · have hx := beq_eq_false_iff_ne.mpr q
      by_cases hk : (k == NameKind.free && sc.kind == .function && sc.names.lookup n == some .cell) = true
      · rw [if_pos hk, List.lookup_cons, List.lookup_cons, hx]; exact ih
      · rw [if_neg hk, List.lookup_cons, List.lookup_cons, hx]; exact ih
/- what we ask of a comprehension's block -/
structure BlkOk (scope sc : Scope) (tbl : List Str) (caps : List Nat) : Prop where
  kind : scope.kind = .function
  cell : ∀ y ∈ scope.names, y.2 ≠ .cell
  names : ∀ y ∈ scope.names, y.2 = .local → scope.names.lookup y.1 = some .local
  free : ∀ y ∈ scope.names, y.2 = .free → sc.names.lookup y.1 = some .cell
  caps : ∀ j ∈ caps, ∀ x, tbl[j]? = some x → scope.names.lookup x = some .free
  fn : sc.kind = .function
noncomputable def blkZ (scope : Scope) (Z : Zz) : Zz := ⟨relabelS scope Z.sc, Z.tbl, Z.code⟩
theorem blk_env {scope : Scope} {Z : Zz} {caps : List Nat} (H : BlkOk scope Z.sc Z.tbl caps) {env : Env} (hE : EnvOk Z env) (L : Addr) : EnvOk (blkZ scope Z) (compEnvC scope (clOf env.cells scope.names []) L env) where
  sc := relabel_eq hE.sc
  kind := H.kind
  glob := hE.glob
  blt := hE.blt
  nd := hE.nd
  code := hE.code
  cel := fun x hx => by
    show ∃ c, (clOf env.cells scope.names []).lookup x = some c
    rw [show (blkZ scope Z).sc = relabelS scope Z.sc from rfl, relabelS_lookup, Option.map_eq_some_iff] at hx
    refine bC fun z_ => ?_
    (obtain ⟨k, h1, h2⟩ := hx) <;> refine z_ ?_ <;> clear z_
    have hm := mem_of_lookup h1
    split at h2
    · rename_i hk
      have hk' : k = .free := by simpa using (Bool.and_eq_true_iff.mp (Bool.and_eq_true_iff.mp hk).1).1
      subst hk'
      obtain ⟨c, hc⟩ := hE.cel x (H.free _ hm rfl)
      exact ⟨c, clOf_lookup hc _ _ (.inl hm)⟩
    · subst h2; exact absurd rfl (H.cell _ hm)
theorem blk_cl {scope : Scope} {Z : Zz} {caps : List Nat} (H : BlkOk scope Z.sc Z.tbl caps) {env : Env} (hE : EnvOk Z env) : closureFor scope env = pure (clOf env.cells scope.names []) :=
  closureFor_eq fun x hx hk => hE.cel x.1 (H.free x hx hk)
/- the names of the block: what it has caught, and its own -/
theorem blk_rel {scope : Scope} {Z : Zz} {caps : List Nat} (H : BlkOk scope Z.sc Z.tbl caps) {env : Env} (hE : EnvOk Z env) {r : Rho} {s s' : Shared} {G G' : PH} (R : SRel Z env r G s.heap) (x : ExtE s s' G G') (L : Addr) :
    SRel (blkZ scope Z) (compEnvC scope (clOf env.cells scope.names []) L env) (r.block caps) G' s'.heap := by
  refine ⟨x.sub, fun i b d e => ?_, (R.ext x).gt, (R.ext x).tab⟩
  unfold Rho.block at e
  obtain ⟨hc, e⟩ := isome e
  rw [Option.map_eq_some_iff] at e
  refine bC fun z_ => ?_
  (obtain ⟨d', e1, e2⟩ := e) <;> refine z_ ?_ <;> clear z_
  cases e2
  have q := get_inv e1
  refine bC fun z_ => ?_
  (obtain ⟨y, v, a, b, _, dd⟩ := R.var _ _ _ q) <;> refine z_ ?_ <;> clear z_
  have hj := H.caps i (by simpa using hc) y a
  have hk := H.free _ (mem_of_lookup hj) rfl
  refine ⟨y, v, a, ?_, ((dd rfl).mono x.le).top x.sub, fun _ => (dd rfl).mono x.le⟩
  have hkind : env.kindOf y = some .cell := by unfold Env.kindOf; rw [hE.sc]; exact hk
  cases b with
  | loc m h1 _ _ => rw [hkind] at h1; cases h1
  | free c h1 _ _ => rw [hkind] at h1; cases h1
  | cell c h1 h2 h3 =>
    refine .cell c ?_ (clOf_lookup h2 _ _ (.inl (mem_of_lookup hj))) (IsCell.keeps h3 R.tab x.keep)
    show (relabel scope env).names.lookup y = some .cell
    rw [relabel_eq hE.sc, relabelS_lookup, hj]
    show some (if (NameKind.free == NameKind.free && Z.sc.kind == .function && Z.sc.names.lookup y == some .cell) = true then NameKind.cell else NameKind.free) = _
    rw [hk, H.fn]
    rfl
theorem blk_more {scope : Scope} {Z : Zz} {caps : List Nat} (H : BlkOk scope Z.sc Z.tbl caps) {env : Env} (hE : EnvOk Z env) {r r' : Rho} {s s' : Shared} {G G' : PH} (R : SRel Z env r G s.heap) (x : ExtE s s' G G') (L : Addr) {m : Str → Option Value} (hn : s'.heap.Ns L m)
    (h : ∀ i b d, r' i = some (b, d) → r.block caps i = some (b, d) ∨ (b = false ∧ ∃ y v, Z.tbl[i]? = some y ∧ scope.names.lookup y = some .local ∧ m y = some v ∧ Rep G' d v)) :
    SRel (blkZ scope Z) (compEnvC scope (clOf env.cells scope.names []) L env) r' G' s'.heap := by
  refine ⟨x.sub, fun i b d e => ?_, (R.ext x).gt, (R.ext x).tab⟩
  rcases h i b d e with e | ⟨rfl, y, v, h1, h2, h3, h4⟩
  · exact (blk_rel H hE R x L).var i b d e
  · exact ⟨y, v, h1, .loc m (lookup_relabel_local h2) hn h3, h4.top x.sub, fun _ => h4⟩
/- what one clause's tests say -/
noncomputable def SndC (U : U0) (l : Nat) (C : Cx) (Z : Zz) (ifs : List Expr) (c : Option B) : Prop := match ifs, c with
  | [], .none => True
  | [e], some b => SndB U l C Z e b
  | _, _ => False
theorem SndC.run {U : U0} {l : Nat} {C : Cx} {Z : Zz} {ifs : List Expr} {c : Option B} (h : SndC U l C Z ifs c) {A : Around} {env : Env} {s : Shared} {G : PH} {r : Rho} {b : Bool} (hE : EnvOk Z env) (hR : Room A l) (hB : U.Base s.heap) (R : SRel Z env r G s.heap) (q : evT C r c = some b)
    {Q : Bool → Shared → Prop} {E : Value → Shared → Prop} (k : ∀ s' G', ExtE s s' G G' → Q b s') :
    wpAny (model U.prog U.w) A (forIn ifs true fun c r => if r = true then do let ok ← isTrue c env (eval c env); pure (ForInStep.yield ok) else pure (ForInStep.yield r)) Q E s := by
  match ifs, c, h with
  | [], .none, _ =>
    have q := Option.some.inj q; subst q
    exact wpAny_tests_nil (k s G (ExtE.refl R.gle))
  | [e], some b', h =>
    have q : evB C r b' = some b := q
    exact wpAny_tests_one ((h A env s G r b hE hR hB R q).use fun s' G' x => k s' G' x)
theorem filtM_cons {f : D → Option (Option D)} {d : D} {r q : List D} (h : filtM f (d :: r) = some q) : ∃ x ys, f d = some x ∧ filtM f r = some ys ∧ q = (match x with | some y => y :: ys | .none => ys) := by
  obtain ⟨x, h1, k_⟩ := bsome h
  obtain ⟨ys, h2, h3⟩ := bsome k_
  refine ⟨x, ys, h1, h2, ?_⟩
  cases x <;> (cases h3; rfl)
/- some heap's change that leaves the old things -/
theorem ExtE.step {s s' : Shared} {G G' : PH} (x : ExtE s s' G G') {h : Heap} {tk : Nat} (old : ∀ b o, (s.heap.get? b).isSome = true → s'.heap.get? b = some o → h.get? b = some o) (fz : ∀ a o, G' a = some o → h.get? a = some o) : ExtE s { s' with heap := h, toks := tk } G G' :=
  ⟨x.keep.step old, x.le, fz, x.old, x.os, x.gens⟩
inductive CBI (s : Shared) (G G₂ : PH) (ds q : List D) (F : List D → Option (List D)) (St : Nat → Heap → Prop) (aD aC : Addr) (wr : List Addr) (k : Nat) (s' : Shared) : Prop
  | mk (i : Nat) (G' : PH) (m : Str → Option Value) (ys : Array Value) (n : Nat) (qd qr : List D) (h1 : i ≤ ds.length) (h2 : k = ds.length + 1 - i) (h3 : ExtE s s' G G') (h4 : G₂.le G') (h5 : St i s'.heap) (h6 : s'.heap.get? aD = some (lstO ys n)) (h7 : s'.heap.Ns aC m)
      (h8 : RepL G' qd ys.toList) (h9 : F (ds.drop i) = some qr) (h10 : q = qd ++ qr) (h11 : G' aD = .none) (h12 : G' aC = .none) (h13 : ∀ b ∈ wr, G' b = .none) (h14 : ys.size ≤ i) : CBI s G G₂ ds q F St aD aC wr k s'
section
variable {U : U0} {l : Nat} {C : Cx} {Z : Zz}
set_option maxHeartbeats 1000000 in
theorem comp_block {elt iter : Expr} {x : Str} {px : Pos} {ifs : List Expr} {scope : Scope} {pos : Pos} {t : Nat} {caps : List Nat} {c : Option B} {y : X} {A : Around} {env : Env} {s s₂ : Shared} {G G₂ : PH} {r : Rho} {it : Value} {ds q : List D} {RR : Value → Addr → Result → Shared → Prop}
    (H : BlkOk scope Z.sc Z.tbl caps) (ht : Z.tbl[t]? = some x) (hx : scope.names.lookup x = some .local) (hc : SndC U l C (blkZ scope Z) ifs c) (hy : Snd U l C (blkZ scope Z) elt y)
    (hE : EnvOk Z env) (hR : Room A l) (hB : U.Base s.heap) (R : SRel Z env r G s.heap) (x₂ : ExtE s s₂ G G₂) (hI : ItW U.prog U.w A it ds s s₂ G₂) (hl : ds.length ≤ big)
    (hq : filtM (fun d => do
      let r' ← (r.block caps).put [t] d
      let go ← evT C r' c
      if go then do let z ← ev C r' y; some (some z) else some .none) ds = some q)
    (hRR : ∀ D L s' G' ys n m, ExtE s s' G G' → s.heap.get? D = .none → s.heap.get? L = .none → D ≠ L → G' D = .none → G' L = .none → s'.heap.get? D = some (lstO ys n) → RepL G' q ys.toList → s'.heap.Ns L m → RR (.ref D) L (.ok .next) s') :
    wpAny (model U.prog U.w) A (newList []) (fun acc s₃ => wpAny (model U.prog U.w) A (newFunctionEnv scope env.globals (clOf env.cells scope.names []) [] env.qual none .none (some env)) (fun cenv s₄ =>
      codeAny (model U.prog U.w) A (.compStart (.ListComp elt [⟨.Name x px, iter, ifs, 0⟩] scope pos) 0 it acc { cenv with scope := relabel scope env }) (RR acc cenv.locals) s₄) (fun _ _ => False) s₃) (fun _ _ => False) s₂ := by
  refine bC fun z_ => ?_
  (obtain ⟨I, fp, wr, P, St, rfl, W, hst, hfp, hwr, hfw, hP, hex⟩ := hI) <;> refine z_ ?_ <;> clear z_
  refine wpAny_newObj_type (wpAny_newFunctionEnv H.cell (by intro y hy; simp at hy) (fun h₁ hns₁ hsb₁ => ?_) H.kind)
  dsimp only at hns₁ hsb₁ ⊢
  generalize hH2 : s₂.heap.push { cls := .type "list", dict := none, data := .seq ([] : List Value).toArray } = H2 at hns₁ hsb₁ ⊢
  have hC : H2.objs.size = s₂.heap.objs.size + 1 := by rw [← hH2, Heap.size_push]
  have hDC : s₂.heap.objs.size ≠ H2.objs.size := by rw [hC]; exact Nat.ne_of_lt (Nat.lt_succ_self _)
  have below : ∀ b, b < s₂.heap.objs.size → b ≠ H2.objs.size ∧ b ≠ s₂.heap.objs.size := fun b hb => ⟨by rw [hC]; exact Nat.ne_of_lt (Nat.lt_succ_of_lt hb), Nat.ne_of_lt hb⟩
  have hDf : s₂.heap.objs.size ∉ fp := fun hm => Nat.lt_irrefl _ (hfp _ hm)
  have hCf : H2.objs.size ∉ fp := fun hm => by have := hfp _ hm; rw [hC] at this; exact Nat.lt_irrefl _ (Nat.lt_of_succ_lt this)
  have old : ∀ b o, s₂.heap.get? b = some o → h₁.get? b = some o := fun b o e => hsb₁.extBut b o (below b (Heap.lt_size e)).1 (Heap.get?_push_of_some _ (hH2 ▸ Heap.get?_push_of_some _ e))
  have hacc : h₁.get? s₂.heap.objs.size = some (lstO #[] 0) := hsb₁.extBut _ _ hDC (Heap.get?_push_of_some _ (hH2 ▸ Heap.get?_push_size _ rfl))
  have hst₁ : St 0 h₁ := W.frame _ _ _ hst fun b _ o e => old b o e
  have fr₂ : ∀ a, s₂.heap.objs.size ≤ a → s₂.heap.get? a = .none := fun a ha => fresh_none ha
  have fr : ∀ a, s₂.heap.objs.size ≤ a → s.heap.get? a = .none := fun a ha => x₂.keep.dead (fr₂ a ha)
  have hD0 := fr _ (Nat.le_refl _)
  have hC0 := fr H2.objs.size (by rw [hC]; exact Nat.le_succ _)
  have nD : s₂.heap.objs.size ≠ tabP := hB.np hD0
  have nC : H2.objs.size ≠ tabP := hB.np hC0
  have nF : ∀ b ∈ fp, b ≠ tabP := fun b hb => by
    rcases hfw b hb with h | ⟨o, h⟩
    · exact hB.np (hwr b h).1
    · intro q; rw [q, (R.ext x₂).gt] at h; cases h
  have hGD : G₂ s₂.heap.objs.size = .none := PH.fresh x₂.sub (fr₂ _ (Nat.le_refl _))
  have hGC : G₂ H2.objs.size = .none := PH.fresh x₂.sub (fr₂ _ (by rw [hC]; exact Nat.le_succ _))
  have x₁ : ExtE s { s₂ with heap := h₁, toks := s₂.toks + ([] : List (Str × Value)).length } G G₂ := x₂.step (fun b o _ e => old b o e) fun a o e => old _ _ (x₂.sub _ _ e)
  have hCw : H2.objs.size ∉ wr := fun h => hCf (W.sub _ h)
  have hDw : s₂.heap.objs.size ∉ wr := fun h => hDf (W.sub _ h)
  have hbig : big = 1000000 := rfl
  have hsl := sizeLine_eq
  generalize hf : (fun d => do
      let r' ← (r.block caps).put [t] d
      let go ← evT C r' c
      if go then do let z ← ev C r' y; some (some z) else some .none) = f at hq
  have loop : ∀ s₃ : Shared, s₃ = { s₂ with heap := h₁, toks := s₂.toks + ([] : List (Str × Value)).length } →
      codeAny (model U.prog U.w) A (.compLoop (.ListComp elt [⟨.Name x px, iter, ifs, 0⟩] scope pos) 0 (.ref I) (.ref s₂.heap.objs.size) (compEnvC scope (clOf env.cells scope.names []) H2.objs.size env))
        (RR (.ref s₂.heap.objs.size) H2.objs.size) s₃ := by
    rintro s₃ rfl
    refine codeAny_compLoop_tests
      (CBI s G G₂ ds q (filtM f) St s₂.heap.objs.size H2.objs.size wr) ?_ (ds.length + 1)
      ⟨0, G₂, _, #[], 0, [], q, Nat.zero_le _, rfl, x₁, PH.le.refl _, hst₁, hacc, hns₁, RepL.nil, by simpa using hq, rfl, hGD, hGC, fun b hb => (hwr b hb).2, Nat.le_refl _⟩
    intro k s' h1_
    refine bC fun z_ => ?_
    (obtain ⟨i, G', m, ys, n, qd, qr, hi, rfl, x', le', hst', hD', hN', rd, hqr, hqq, gD, gC, gw, hys⟩ := h1_) <;> refine z_ ?_ <;> clear z_
    by_cases hlt : i < ds.length
    · refine W.item i _ _ _ hlt hst' fun v h₂ tk₂ hPv hst₂ hk₂ => ?_
      have x2 : ExtE s { s' with heap := h₂, toks := tk₂ } G G' := x'.step (fun b o e e' => hk₂ b o (fun hb => by rw [(hwr b hb).1] at e; cases e) e') fun a o e => hk₂ a o (fun hb => by rw [gw a hb] at e; cases e) (x'.sub _ _ e)
      refine wpAny_assign_Name (wpAny_storeName_local (env := compEnvC scope (clOf env.cells scope.names []) H2.objs.size env) (lookup_relabel_local hx) (hN'.at' fun o e => hk₂ _ o hCw e) (fun h₃ hn₃ hs₃ => ?_) (by simp [compEnvC, relabel, H.kind]))
      replace hs₃ : Heap.SameBut H2.objs.size h₂ h₃ := hs₃
      replace hn₃ : h₃.Ns H2.objs.size (fun z => if z = x then some v else m z) := hn₃
      have x3 : ExtE s { s' with heap := h₃, toks := tk₂ + 1 } G G' := x2.step (tk := tk₂ + 1) (fun b o e e' => hs₃.extBut b o (fun hb => by rw [hb, hC0] at e; cases e) e') fun a o e => hs₃.extBut a o (fun hb => by rw [hb, gC] at e; cases e) (x2.sub _ _ e)
      have hst₃ : St (i + 1) h₃ := W.frame _ _ _ hst₂ fun b hb o e => hs₃.extBut b o (fun h => hCf (h ▸ hb)) e
      have hD₃ : h₃.get? s₂.heap.objs.size = some (lstO ys n) := hs₃.extBut _ _ hDC (hk₂ _ _ hDw hD')
      obtain ⟨d, hd⟩ : ∃ d, ds[i]? = some d := ⟨_, List.getElem?_eq_getElem hlt⟩
      have rv : Rep G' d v := (hP i v d hd hPv).mono le'
      have hdrop : ds.drop i = d :: ds.drop (i + 1) := by
        rw [List.drop_eq_getElem_cons hlt]; congr 1
        rw [List.getElem?_eq_getElem hlt] at hd; exact Option.some.inj hd
      rw [hdrop] at hqr
      refine bC fun z_ => ?_
      (obtain ⟨z, qs, hz, hqs, hqe⟩ := filtM_cons hqr) <;> refine z_ ?_ <;> clear z_
      rw [← hf] at hz
      simp only [Rho.put, Option.bind_eq_bind, Option.bind_eq_some_iff, Option.some.injEq, exists_eq_left'] at hz
      refine bC fun z_ => ?_
      (obtain ⟨go, hgo, hz⟩ := hz) <;> refine z_ ?_ <;> clear z_
      have R3 : SRel (blkZ scope Z) (compEnvC scope (clOf env.cells scope.names []) H2.objs.size env) ((r.block caps).set t d) G' h₃ := by
        refine blk_more H hE R x3 H2.objs.size hn₃ fun j b d' e => ?_
        unfold Rho.set at e
        split at e
        · rename_i hj; subst hj; cases e
          exact .inr ⟨rfl, x, v, ht, hx, by simp, rv⟩
        · exact .inl e
      have hEb := blk_env H hE H2.objs.size
      refine hc.run hEb hR (hB.keeps x3.keep) R3 hgo fun s4 G4 x4 => ?_
      have x14 := x3.trans x4
      have gD4 : G4 s₂.heap.objs.size = .none := by rw [x4.old _ (by show (h₃.get? _).isSome = true; rw [hD₃]; rfl)]; exact gD
      have gC4 : G4 H2.objs.size = .none := by
        rw [x4.old _ (by show (h₃.get? _).isSome = true; obtain ⟨o, _, _, ho, _⟩ := hn₃; rw [ho]; rfl)]; exact gC
      have wi : ∀ b ∈ wr, (h₃.get? b).isSome = true := hex _ _ hst₃
      have gw4 : ∀ b ∈ wr, G4 b = .none := fun b hb => by rw [x4.old _ (wi b hb)]; exact gw b hb
      have hst₄ : St (i + 1) s4.heap := W.frame _ _ _ hst₃ fun b hb o e => x4.keep.kp b o (nF b hb) e
      cases go with
      | false =>
        simp only [Bool.false_eq_true, if_false, Option.some.injEq] at hz ⊢
        subst hz
        exact ⟨ds.length + 1 - (i + 1), by omega, i + 1, G4, _, ys, n, qd, qs, hlt, rfl, x14, le'.trans x4.le, hst₄, x4.keep.kp _ _ nD hD₃, hn₃.at' (fun o e => x4.keep.kp _ o nC e), rd.mono x4.le, hqs, by rw [hqq, hqe], gD4, gC4, gw4, by omega⟩
      | true =>
        simp only [if_true] at hz ⊢
        rw [Option.bind_eq_some_iff] at hz
        refine bC fun z_ => ?_
        (obtain ⟨z', hz1, hz2⟩ := hz) <;> refine z_ ?_ <;> clear z_
        cases hz2
        refine (hy A _ s4 G4 _ z' hEb hR (hB.keeps x14.keep) (R3.ext x4) hz1).use fun v5 s5 G5 x5 r5 => ?_
        have x15 := x14.trans x5
        have hD5 : s5.heap.get? s₂.heap.objs.size = some (lstO ys n) := x5.keep.kp _ _ nD (x4.keep.kp _ _ nD hD₃)
        have gD5 : G5 s₂.heap.objs.size = .none := by rw [x5.old _ (x4.keep.live (by rw [hD₃]; rfl))]; exact gD4
        have gC5 : G5 H2.objs.size = .none := by
          refine bC fun z_ => ?_
          (obtain ⟨o, _, _, ho, _⟩ := hn₃) <;> refine z_ ?_ <;> clear z_
          rw [x5.old _ (x4.keep.live (by rw [ho]; rfl))]; exact gC4
        have gw5 : ∀ b ∈ wr, G5 b = .none := fun b hb => by
          obtain ⟨o, ho⟩ := Option.isSome_iff_exists.mp (wi b hb)
          rw [x5.old _ (x4.keep.live (by rw [ho]; rfl))]; exact gw4 b hb
        refine wpAny_list_append_plain (items := ys) ⟨n, hD5⟩ (fun h₆ ⟨n', hD₆⟩ hs₆ => ?_) (by omega)
        have x16 : ExtE s { s5 with heap := h₆ } G G5 := x15.step (tk := s5.toks) (fun b o e e' => hs₆.extBut b o (fun hb => by rw [hb, hD0] at e; cases e) e') fun a o e => hs₆.extBut a o (fun hb => by rw [hb, gD5] at e; cases e) (x15.sub _ _ e)
        refine ⟨ds.length + 1 - (i + 1), by omega, i + 1, G5, _, ys.push v5, n', qd ++ [z'], qs, hlt, rfl, x16, (le'.trans x4.le).trans x5.le, ?_, hD₆, ((hn₃.at' fun o e => x4.keep.kp _ o nC e).at' fun o e => x5.keep.kp _ o nC e).sameBut hs₆ (Ne.symm hDC), ?_, hqs, by rw [hqq, hqe]; simp, gD5, gC5, gw5, by rw [Array.size_push]; omega⟩
        · exact W.frame _ _ _ (W.frame _ _ _ hst₄ fun b hb o e => x5.keep.kp b o (nF b hb) e) fun b hb o e => hs₆.extBut b o (fun h => hDf (h ▸ hb)) e
        · rw [Array.toList_push]; exact (rd.mono (x4.le.trans x5.le)).append (RepL.cons r5 RepL.nil)
    · have hin : i = ds.length := by omega
      subst hin
      rw [List.drop_length] at hqr
      have hqr := Option.some.inj hqr; subst hqr
      refine W.done _ _ _ hst' fun h₂ tk₂ hk₂ => ?_
      have x2 : ExtE s { s' with heap := h₂, toks := tk₂ } G G' := x'.step (fun b o e e' => hk₂ b o (fun hb => by rw [(hwr b hb).1] at e; cases e) e') fun a o e => hk₂ a o (fun hb => by rw [gw a hb] at e; cases e) (x'.sub _ _ e)
      refine hRR _ _ _ G' ys n m x2 hD0 hC0 hDC gD gC (hk₂ _ _ hDw hD') (by rw [hqq, List.append_nil]; exact rd) (hN'.at' fun o e => hk₂ _ o hCw e)
  exact codeAny_compStart_list (loop _ rfl) (W.self 0 _ _ _ hst₁ (loop _ rfl))
end
end Mine
end

/- part EC -/
section
open PySem PySem.W PyProof.Rows PySem.Calls PySem.Spec PyProof.V PySem.Builtin PySem.Builtin.Str
set_option maxRecDepth 10000
namespace Mine
theorem filtM_len {f : D → Option (Option D)} : ∀ {ds q : List D}, filtM f ds = some q → q.length ≤ ds.length
  | [], q, h => by simp only [filtM, Option.some.injEq] at h; subst h; exact Nat.le_refl _
  | d :: r, q, h => by
    refine bC fun z_ => ?_
    (obtain ⟨x, ys, _, h2, h3⟩ := filtM_cons h) <;> refine z_ ?_ <;> clear z_
    have := filtM_len h2
    subst h3
    cases x with
    | none => simp only [List.length_cons]; omega
    | some y => simp only [List.length_cons]; omega
section
variable {U : U0} {l : Nat} {C : Cx} {Z : Zz}
theorem Snd.comp {elt iter : Expr} {x : Str} {px : Pos} {ifs : List Expr} {scope : Scope} {pos : Pos} {t : Nat} {caps : List Nat} {c : Option B} {y : X} {it : I}
    (H : BlkOk scope Z.sc Z.tbl caps) (ht : Z.tbl[t]? = some x) (hx : scope.names.lookup x = some .local) (hi : SndI U l C Z iter it) (hc : SndC U l C (blkZ scope Z) ifs c) (hy : Snd U l C (blkZ scope Z) elt y)
    (hs : ∀ env x, foldedSetIterable iter env x = pure x) : Snd U l C Z (.ListComp elt [⟨.Name x px, iter, ifs, 0⟩] scope pos) (.comp [t] caps it c y) := by
  intro A env s G r d hE hR hB R q
  obtain ⟨ds, e1, k_⟩ := bsome q
  obtain ⟨_, e0, k_⟩ := bsome k_
  obtain ⟨qs, e2, q⟩ := bsome k_
  obtain ⟨hl, rfl⟩ := lenOk_some q
  rw [eval_ListComp]
  refine wpAny_comprehension_free (use := Option.none) rfl (hs env) (blk_cl H hE) H.kind H.names (wpAny_mono (hi A env s G r ds hE hR hB R e1) (fun xv s₁ h₁ => wpAny_mono h₁ (fun itv s₂ h_ => ?_) fun _ _ f => f) fun _ _ f => f)
  refine bC fun z_ => ?_
  (obtain ⟨G₂, x₂, hI⟩ := h_) <;> refine z_ ?_ <;> clear z_
  have hlen : ds.length ≤ big := (lenOk_some e0).1
  refine comp_block (RR := fun acc C => compPost (model U.prog U.w) A (fun _ _ => False) Option.none (fun v s' => ∃ G', ExtE s s' G G' ∧ Rep G' (.list qs) v) acc C) H ht hx hc hy hE hR hB R x₂ hI hlen (by simp only [Option.bind_eq_bind]; exact e2) ?_
  intro D L s' G' ys n m x' hD0 hL0 hDL gD gL hD rd hn
  refine ⟨m, hn, fun h'' hs'' => ?_⟩
  have x2 : ExtE s { s' with heap := h'' } G G' := x'.step (tk := s'.toks) (fun b o e e' => hs''.extBut b o (fun hb => by rw [hb, hL0] at e; cases e) e') fun a o e => hs''.extBut a o (fun hb => by rw [hb, gL] at e; cases e) (x'.sub _ _ e)
  refine ⟨_, x2.keepNew hD0 gD (hs''.extBut _ _ hDL hD), ?_⟩
  simp only [Rep]
  exact ⟨_, _, _, rfl, PH.put_self _ _ _, rd.mono (PH.le_put gD)⟩
end
end Mine
end

/- part ED -/
section
open PySem PySem.W PyProof.Rows PySem.Calls PySem.Spec PyProof.V PySem.Builtin PySem.Builtin.Str
set_option maxRecDepth 10000
namespace Mine
/- a name of a frame's own -/
noncomputable def Holds (env : Env) (m cm : Str → Option Value) (x : Str) (v : Value) : Prop :=
  (env.kindOf x = some .local ∧ m x = some v) ∨ (env.kindOf x = some .cell ∧ ∃ c, env.cells.lookup x = some c ∧ cm x = some v)
structure FR (Z : Zz) (env : Env) (r : Rho) (G : PH) (h₀ h : Heap) (ow : Nat → Option Addr) : Prop where
  keep₀ : Kp h₀ h
  gle : ∀ a o, G a = some o → h.get? a = some o
  fresh : h₀.get? env.locals = none
  gL : G tabP = none ∧ G env.locals = none
  cel : ∀ n c, env.cells.lookup n = some c → h₀.get? c = none ∧ G c = none ∧ c ≠ env.locals
  apart : TabOk h₀ ∧ ∀ n n' c, env.cells.lookup n = some c → env.cells.lookup n' = some c → n = n'
  own : ∀ i a, ow i = some a → h₀.get? a = none ∧ G a = none ∧ a ≠ env.locals ∧ (∀ n, env.cells.lookup n ≠ some a) ∧ (h.get? a).isSome = true ∧ ∃ d, r i = some (true, d)
  inj : ∀ i j a, ow i = some a → ow j = some a → i = j
  vars : ∃ m cm, h.Ns env.locals m ∧ (∀ n c, env.cells.lookup n = some c → h.IsCell c (cm n)) ∧ ∀ i b d, r i = some (b, d) → ∃ x v, Z.tbl[i]? = some x ∧ Holds env m cm x v ∧ RepTop h G d v ∧ (b = false → Rep G d v) ∧ (b = true → ∃ a, v = .ref a ∧ ow i = some a)
theorem FR.tab {Z : Zz} {env : Env} {r : Rho} {G : PH} {h₀ h : Heap} {ow : Nat → Option Addr} (F : FR Z env r G h₀ h ow) : TabOk h := F.keep₀.tab F.apart.1
theorem FR.rel {Z : Zz} {env : Env} {r : Rho} {G : PH} {h₀ h : Heap} {ow : Nat → Option Addr} (F : FR Z env r G h₀ h ow) : SRel Z env r G h := by
  refine ⟨F.gle, fun i b d e => ?_, F.gL.1, F.tab⟩
  refine bC fun z_ => ?_
  (obtain ⟨m, cm, hn, hc, hv⟩ := F.vars) <;> refine z_ ?_ <;> clear z_
  refine bC fun z_ => ?_
  (obtain ⟨x, v, h1, h2, h3, h4, _⟩ := hv i b d e) <;> refine z_ ?_ <;> clear z_
  refine ⟨x, v, h1, ?_, h3, h4⟩
  rcases h2 with ⟨k, q⟩ | ⟨k, c, q1, q2⟩
  · exact .loc m k hn q
  · exact .cell c k q1 (q2 ▸ hc _ _ q1)
/- what a frame may change -/
noncomputable def Mt (env : Env) (ow : Nat → Option Addr) (b : Addr) : Prop := b = env.locals ∨ (∃ n, env.cells.lookup n = some b) ∨ ∃ i, ow i = some b
theorem FR.mtG {Z : Zz} {env : Env} {r : Rho} {G : PH} {h₀ h : Heap} {ow : Nat → Option Addr} (F : FR Z env r G h₀ h ow) {b : Addr} (hb : Mt env ow b) : G b = none ∧ h₀.get? b = none ∧ (h.get? b).isSome = true := by
  refine bC fun z_ => ?_
  (obtain ⟨m, cm, hn, hc, _⟩ := F.vars) <;> refine z_ ?_ <;> clear z_
  rcases hb with rfl | ⟨n, hb⟩ | ⟨i, hb⟩
  · exact ⟨F.gL.2, F.fresh, by obtain ⟨o, _, _, ho, _⟩ := hn; rw [ho]; rfl⟩
  · exact ⟨(F.cel n b hb).2.1, (F.cel n b hb).1, by obtain ⟨o, ho, _⟩ := hc n b hb; rw [ho]; rfl⟩
  · exact ⟨(F.own i b hb).2.1, (F.own i b hb).1, (F.own i b hb).2.2.2.2.1⟩
theorem FR.mtP {Z : Zz} {env : Env} {r : Rho} {G : PH} {h₀ h : Heap} {ow : Nat → Option Addr} (F : FR Z env r G h₀ h ow) {b : Addr} (hb : Mt env ow b) : b ≠ tabP := F.apart.1.np (F.mtG hb).2.1
structure ExtS (env : Env) (ow ow' : Nat → Option Addr) (s s' : Shared) (G G' : PH) : Prop where
  keep : ∀ b o, ¬ Mt env ow b → b ≠ tabP → s.heap.get? b = some o → s'.heap.get? b = some o
  le : G.le G'
  old : ∀ a, a ≠ tabP → (s.heap.get? a).isSome = true → ¬ Mt env ow a → G' a = G a
  mt : ∀ b, Mt env ow' b → Mt env ow b ∨ s.heap.get? b = none ∨ b = tabP
  os : s'.os = s.os
  gens : AllBare s.gens → AllBare s'.gens
theorem ExtS.refl {env : Env} {ow : Nat → Option Addr} {s : Shared} {G : PH} : ExtS env ow ow s s G G := ⟨fun _ _ _ _ e => e, PH.le.refl _, fun _ _ _ _ => rfl, fun _ h => .inl h, rfl, id⟩
theorem ExtS.trans {env : Env} {ow ow' ow'' : Nat → Option Addr} {s s' s'' : Shared} {G G' G'' : PH} (x : ExtS env ow ow' s s' G G') (y : ExtS env ow' ow'' s' s'' G' G'') : ExtS env ow ow'' s s'' G G'' := by
  have nm : ∀ b o, ¬ Mt env ow b → b ≠ tabP → s.heap.get? b = some o → ¬ Mt env ow' b := fun b o h n e h' => by
    rcases x.mt b h' with q | q | q
    · exact h q
    · rw [q] at e; cases e
    · exact n q
  refine ⟨fun b o h n e => y.keep b o (nm b o h n e) n (x.keep b o h n e), x.le.trans y.le, fun a n h h' => ?_, fun b h => ?_, y.os.trans x.os, fun g => y.gens (x.gens g)⟩
  · obtain ⟨o, ho⟩ := Option.isSome_iff_exists.mp h
    rw [y.old a n (by rw [x.keep a o h' n ho]; rfl) (nm a o h' n ho), x.old a n h h']
  · rcases y.mt b h with q | q | q
    · exact x.mt b q
    · by_cases hm : Mt env ow b
      · exact .inl hm
      · right
        by_cases n : b = tabP
        · exact .inr n
        · left
          cases e : s.heap.get? b with
          | none => rfl
          | some o => rw [x.keep b o hm n e] at q; cases q
    · exact .inr (.inr q)
theorem ExtE.toS {env : Env} {ow : Nat → Option Addr} {s s' : Shared} {G G' : PH} (x : ExtE s s' G G') : ExtS env ow ow s s' G G' :=
  ⟨fun b o _ n e => x.keep.kp b o n e, x.le, fun a _ h _ => x.old a h, fun _ h => .inl h, x.os, x.gens⟩
section
variable {Z : Zz} {env : Env} {r : Rho} {G : PH} {h₀ h : Heap} {ow : Nat → Option Addr}
theorem FR.ext {s s' : Shared} {G' : PH} (F : FR Z env r G h₀ s.heap ow) (x : ExtE s s' G G') : FR Z env r G' h₀ s'.heap ow := by
  have hm : ∀ b, Mt env ow b → G' b = none := fun b hb => by rw [x.old b (F.mtG hb).2.2]; exact (F.mtG hb).1
  refine bC fun z_ => ?_
  (obtain ⟨m, cm, hn, hc, hv⟩ := F.vars) <;> refine z_ ?_ <;> clear z_
  refine ⟨F.keep₀.trans x.keep, x.sub, F.fresh, ⟨by rw [x.old _ F.tab.alive]; exact F.gL.1, hm _ (.inl rfl)⟩, fun n c e => ⟨(F.cel n c e).1, hm _ (.inr (.inl ⟨n, e⟩)), (F.cel n c e).2.2⟩, F.apart, fun i a e => ?_, F.inj, m, cm, Ns.kp hn F.tab x.keep, fun n c e => IsCell.keeps (hc n c e) F.tab x.keep, fun i b d e => ?_⟩
  · obtain ⟨h1, h2, h3, h4, h5, h6⟩ := F.own i a e
    refine ⟨h1, hm _ (.inr (.inr ⟨i, e⟩)), h3, h4, ?_, h6⟩
    exact x.keep.live h5
  · obtain ⟨y, v, h1, h2, h3, h4, h5⟩ := hv i b d e
    exact ⟨y, v, h1, h2, h3.mono F.tab x.keep x.le, fun q => (h4 q).mono x.le, h5⟩
/- all the frame's own objects are given up -/
theorem FR.freeze {s : Shared} (F : FR Z env r G h₀ s.heap ow) : ∃ G', FR Z env r.freeze G' h₀ s.heap (fun _ => none) ∧ ExtS env ow (fun _ => none) s s G G' := by
  classical
  let G' : PH := fun b => if ∃ i, ow i = some b then s.heap.get? b else G b
  have le : G.le G' := fun a o e => by
    show (if _ then _ else _) = _
    split
    · rename_i q; obtain ⟨i, q⟩ := q; rw [(F.own i a q).2.1] at e; cases e
    · exact e
  have sub : ∀ a o, G' a = some o → s.heap.get? a = some o := fun a o e => by
    change (if _ then _ else _) = _ at e
    split at e
    · exact e
    · exact F.gle a o e
  have no : ∀ b, (∀ i, ow i ≠ some b) → G' b = G b := fun b hb => by
    show (if _ then _ else _) = _
    rw [if_neg]
    rintro ⟨i, q⟩; exact hb i q
  refine bC fun z_ => ?_
  (obtain ⟨m, cm, hn, hc, hv⟩ := F.vars) <;> refine z_ ?_ <;> clear z_
  refine ⟨G', ⟨F.keep₀, sub, F.fresh, ⟨?_, ?_⟩, fun n c e => ⟨(F.cel n c e).1, ?_, (F.cel n c e).2.2⟩, F.apart, fun i a e => (nomatch e), fun i j a e => (nomatch e), m, cm, hn, hc, fun i b d e => ?_⟩, fun b o _ _ e => e, le, fun a _ h1 h2 => no a fun i q => h2 (.inr (.inr ⟨i, q⟩)), fun b hb => ?_, rfl, id⟩
  · rw [no _ fun i q => F.mtP (.inr (.inr ⟨i, q⟩)) rfl]; exact F.gL.1
  · rw [no _ fun i q => (F.own i _ q).2.2.1 rfl]; exact F.gL.2
  · rw [no _ fun i q => (F.own i _ q).2.2.2.1 n e]; exact (F.cel n c e).2.1
  · unfold Rho.freeze at e
    rw [Option.map_eq_some_iff] at e
    refine bC fun z_ => ?_
    (obtain ⟨⟨b', d'⟩, e1, e2⟩ := e) <;> refine z_ ?_ <;> clear z_
    cases e2
    refine bC fun z_ => ?_
    (obtain ⟨y, v, h1, h2, h3, h4, h5⟩ := hv i b' d' e1) <;> refine z_ ?_ <;> clear z_
    have rv : Rep G' d' v := by
      cases b' with
      | false => exact (h4 rfl).mono le
      | true =>
        refine bC fun z_ => ?_
        (obtain ⟨a, rfl, ha⟩ := h5 rfl) <;> refine z_ ?_ <;> clear z_
        have hg : G' a = s.heap.get? a := by
          show (if _ then _ else _) = _
          rw [if_pos ⟨i, ha⟩]
        cases d' with
        | list l =>
          refine bC fun z_ => ?_
          (obtain ⟨a', vs, n, e, g, q⟩ := h3) <;> refine z_ ?_ <;> clear z_
          cases e
          simp only [Rep]; exact ⟨_, vs, n, rfl, by rw [hg]; exact g, q.mono le⟩
        | dict l =>
          refine bC fun z_ => ?_
          (obtain ⟨a', o, kvs, e, g, i, z, q⟩ := h3) <;> refine z_ ?_ <;> clear z_
          cases e
          simp only [Rep]; exact ⟨_, o, kvs, rfl, by rw [hg]; exact g, i, z, q.mono le⟩
        | _ => exact Rep.mono le h3
    exact ⟨y, v, h1, h2, rv.top sub, fun _ => rv, fun q => by cases q⟩
  · rcases hb with h1 | h1 | ⟨i, h1⟩
    · exact .inl (.inl h1)
    · exact .inl (.inr (.inl h1))
    · cases h1
/- where a name may be stored -/
noncomputable def Storable (Z : Zz) (i : Nat) (x : Str) : Prop := Z.tbl[i]? = some x ∧ (Z.sc.names.lookup x = some .local ∨ Z.sc.names.lookup x = some .cell)
theorem RepTop.same {h h' : Heap} {G : PH} {d : D} {v : Value} (r : RepTop h G d v) (k : ∀ a, v = .ref a → h'.get? a = h.get? a) : RepTop h' G d v := by
  cases d with
  | list l => obtain ⟨a, vs, n, e, g, q⟩ := r; exact ⟨a, vs, n, e, (k a e).trans g, q⟩
  | dict l => obtain ⟨a, o, kvs, e, g, i, z, q⟩ := r; exact ⟨a, o, kvs, e, (k a e).trans g, i, z, q⟩
  | _ => exact r
noncomputable def refOf : Value → Option Addr
  | .ref a => some a
  | _ => none
theorem store_ok {prog : Program} {w : World} {A : Around} {s : Shared} {i : Nat} {x : Str} {b : Bool} {d : D} {v : Value} {Q : Unit → Shared → Prop} {E : Value → Shared → Prop} (hE : EnvOk Z env) (F : FR Z env r G h₀ s.heap ow) (hs : Storable Z i x)
    (rt : RepTop s.heap G d v) (rf : b = false → Rep G d v) (ro : b = true → ∃ a, v = .ref a ∧ h₀.get? a = none ∧ G a = none ∧ a ≠ env.locals ∧ (∀ n, env.cells.lookup n ≠ some a) ∧ (s.heap.get? a).isSome = true ∧ ∀ j, j ≠ i → ow j ≠ some a)
    (k : ∀ s', FR Z env (fun j => if j = i then some (b, d) else r j) G h₀ s'.heap (fun j => if j = i then (if b then refOf v else none) else ow j) → (∀ c o, c ≠ env.locals → (∀ n, env.cells.lookup n ≠ some c) → s.heap.get? c = some o → s'.heap.get? c = some o) →
      s'.os = s.os → s'.gens = s.gens → Q () s') : wpAny (model prog w) A (storeName env x v) Q E s := by
  obtain ⟨hx, hk⟩ := hs
  refine bC fun z_ => ?_
  (obtain ⟨m, cm, hn, hc, hv⟩ := F.vars) <;> refine z_ ?_ <;> clear z_
  have hkind : env.kindOf x = Z.sc.names.lookup x := by unfold Env.kindOf; rw [hE.sc]
  have ndx : ∀ j y, Z.tbl[j]? = some y → j ≠ i → y ≠ x := fun j y hj hne e => by
    subst e
    have h1 := List.getElem?_eq_some_iff.mp hj
    have h2 := List.getElem?_eq_some_iff.mp hx
    obtain ⟨p1, q1⟩ := h1
    obtain ⟨p2, q2⟩ := h2
    exact hne ((List.getElem_inj hE.nd).mp (q1.trans q2.symm))
  -- what both roads share
  have fin : ∀ (s' : Shared) (T : Addr) (m' cm' : Str → Option Value), (T = env.locals ∨ ∃ n, env.cells.lookup n = some T) → (∀ c, c ≠ T → s'.heap.get? c = s.heap.get? c) → s'.os = s.os → s'.gens = s.gens →
      s'.heap.Ns env.locals m' → (∀ n c, env.cells.lookup n = some c → s'.heap.IsCell c (cm' n)) → Holds env m' cm' x v → (∀ y u, y ≠ x → Holds env m cm y u → Holds env m' cm' y u) → Q () s' := by
    intro s' T m' cm' hT hsame hos hgens hn' hc' hx' hoth
    have notT : ∀ a, a ≠ env.locals → (∀ n, env.cells.lookup n ≠ some a) → a ≠ T := fun a h1 h2 e => by
      rcases hT with q | ⟨n, q⟩
      · exact h1 (e.trans q)
      · exact h2 n (e ▸ q)
    have hT0 : h₀.get? T = none := by
      rcases hT with q | ⟨n, q⟩
      · rw [q]; exact F.fresh
      · exact (F.cel n T q).1
    have hTG : G T = none := by
      rcases hT with q | ⟨n, q⟩
      · rw [q]; exact F.gL.2
      · exact (F.cel n T q).2.1
    have gle' : ∀ a o, G a = some o → s'.heap.get? a = some o := fun a o e => by rw [hsame a (fun q => by rw [q, hTG] at e; cases e)]; exact F.gle a o e
    refine k s' ⟨F.keep₀.step fun c o e e' => by rw [hsame c (fun q => by rw [q, hT0] at e; cases e)]; exact e', gle', F.fresh, F.gL, F.cel, F.apart, fun j a e => ?_, fun j j' a e e' => ?_, m', cm', hn', hc', fun j b' d' e => ?_⟩ (fun c o h1 h2 e => (hsame c (notT c h1 h2)).trans e) hos hgens
    · by_cases q : j = i
      · subst q
        rw [if_pos rfl] at e
        cases b with
        | false => simp at e
        | true =>
          refine bC fun z_ => ?_
          (obtain ⟨a', rfl, h1, h2, h3, h4, h5, h6⟩ := ro rfl) <;> refine z_ ?_ <;> clear z_
          simp only [if_true, refOf, Option.some.injEq] at e
          subst e
          exact ⟨h1, h2, h3, h4, by rw [hsame _ (notT _ h3 h4)]; exact h5, d, by rw [if_pos rfl]⟩
      · rw [if_neg q] at e
        refine bC fun z_ => ?_
        (obtain ⟨h1, h2, h3, h4, h5, d', h6⟩ := F.own j a e) <;> refine z_ ?_ <;> clear z_
        exact ⟨h1, h2, h3, h4, by rw [hsame _ (notT _ h3 h4)]; exact h5, d', by rw [if_neg q]; exact h6⟩
    · by_cases q : j = i
      · by_cases q' : j' = i
        · rw [q, q']
        · rw [if_pos q] at e; rw [if_neg q'] at e'
          cases b with
          | false => simp at e
          | true =>
            refine bC fun z_ => ?_
            (obtain ⟨a', rfl, h1, h2, h3, h4, h5, h6⟩ := ro rfl) <;> refine z_ ?_ <;> clear z_
            simp only [if_true, refOf, Option.some.injEq] at e
            subst e
            exact absurd e' (h6 j' q')
      · by_cases q' : j' = i
        · rw [if_pos q'] at e'; rw [if_neg q] at e
          cases b with
          | false => simp at e'
          | true =>
            refine bC fun z_ => ?_
            (obtain ⟨a', rfl, h1, h2, h3, h4, h5, h6⟩ := ro rfl) <;> refine z_ ?_ <;> clear z_
            simp only [if_true, refOf, Option.some.injEq] at e'
            subst e'
            exact absurd e (h6 j q)
        · rw [if_neg q] at e; rw [if_neg q'] at e'; exact F.inj j j' a e e'
    · by_cases q : j = i
      · subst q
        rw [if_pos rfl, Option.some.injEq, Prod.mk.injEq] at e
        obtain ⟨rfl, rfl⟩ := e
        refine ⟨x, v, hx, hx', ?_, rf, fun hb => ?_⟩
        · cases b with
          | false => exact (rf rfl).top gle'
          | true =>
            refine bC fun z_ => ?_
            (obtain ⟨a', rfl, h1, h2, h3, h4, h5, h6⟩ := ro rfl) <;> refine z_ ?_ <;> clear z_
            exact rt.same fun a e => by cases e; exact hsame _ (notT _ h3 h4)
        · subst hb
          refine bC fun z_ => ?_
          (obtain ⟨a', rfl, h1⟩ := ro rfl) <;> refine z_ ?_ <;> clear z_
          exact ⟨a', rfl, by rw [if_pos rfl]; rfl⟩
      · rw [if_neg q] at e
        refine bC fun z_ => ?_
        (obtain ⟨y, u, h1, h2, h3, h4, h5⟩ := hv j b' d' e) <;> refine z_ ?_ <;> clear z_
        refine ⟨y, u, h1, hoth y u (ndx j y h1 q) h2, ?_, h4, fun hb => ?_⟩
        · cases b' with
          | false => exact (h4 rfl).top gle'
          | true =>
            refine bC fun z_ => ?_
            (obtain ⟨a', rfl, h6⟩ := h5 rfl) <;> refine z_ ?_ <;> clear z_
            refine bC fun z_ => ?_
            (obtain ⟨_, _, g3, g4, _⟩ := F.own j a' h6) <;> refine z_ ?_ <;> clear z_
            exact h3.same fun a e => by cases e; exact hsame _ (notT _ g3 g4)
        · obtain ⟨a', h6, h7⟩ := h5 hb
          exact ⟨a', h6, by rw [if_neg q]; exact h7⟩
  rcases hk with hk | hk
  · refine wpAny_storeName_local (hkind.trans hk) hn (fun h' hn' hs' => ?_) (by rw [hE.kind]; rfl)
    refine fin _ env.locals _ cm (.inl rfl) (fun c hc => hs'.2 c hc) rfl rfl hn' (fun n c e => ?_) (.inl ⟨hkind.trans hk, by simp⟩) fun y u hy hh => ?_
    · exact (hc n c e).sameBut hs' (F.cel n c e).2.2
    · rcases hh with ⟨h1, h2⟩ | h1
      · exact .inl ⟨h1, by simp [hy]; exact h2⟩
      · exact .inr h1
  · obtain ⟨c, hcl⟩ := hE.cel x hk
    refine wpAny_storeName_cell hE.kind (hkind.trans hk) hcl (hc x c hcl) fun h' hc' hs' => ?_
    refine fin _ c m (fun y => if y = x then some v else cm y) (.inr ⟨x, hcl⟩) (fun c' hc' => hs'.2 c' hc') rfl rfl (hn.sameBut hs' (Ne.symm (F.cel x c hcl).2.2)) (fun n c' e => ?_) (.inr ⟨hkind.trans hk, c, hcl, by simp⟩) fun y u hy hh => ?_
    · by_cases q : n = x
      · subst q; rw [hcl] at e; cases e; simpa using hc'
      · rw [if_neg q]
        exact (hc n c' e).sameBut hs' fun e' => q (F.apart.2 n x c (e' ▸ e) hcl)
    · rcases hh with h1 | ⟨h1, c', h2, h3⟩
      · exact .inl h1
      · exact .inr ⟨h1, c', h2, by simp [hy]; exact h3⟩
/- an object of the frame's own is changed -/
theorem FR.turn {i : Nat} {a : Addr} {d d' : D} {h' : Heap} (F : FR Z env r G h₀ h ow) (hi : r i = some (true, d)) (ha : ow i = some a) (hs : Heap.SameBut a h h') (rt : RepTop h' G d' (.ref a)) (he : (h'.get? a).isSome = true) :
    FR Z env (r.own i d') G h₀ h' ow := by
  refine bC fun z_ => ?_
  (obtain ⟨f1, f2, f3, f4, f5, _⟩ := F.own i a ha) <;> refine z_ ?_ <;> clear z_
  refine bC fun z_ => ?_
  (obtain ⟨m, cm, hn, hc, hv⟩ := F.vars) <;> refine z_ ?_ <;> clear z_
  have gle' : ∀ a o, G a = some o → h'.get? a = some o := fun c o e => by rw [hs.2 c (fun q => by rw [q, f2] at e; cases e)]; exact F.gle c o e
  refine ⟨F.keep₀.step fun c o e e' => by rw [hs.2 c (fun q => by rw [q, f1] at e; cases e)]; exact e', gle', F.fresh, F.gL, F.cel, F.apart, fun j c e => ?_, F.inj, m, cm, hn.sameBut hs (Ne.symm f3), fun n c e => (hc n c e).sameBut hs fun q => f4 n (q ▸ e), fun j b dd e => ?_⟩
  · obtain ⟨g1, g2, g3, g4, g5, d1, g6⟩ := F.own j c e
    refine ⟨g1, g2, g3, g4, ?_, ?_⟩
    · by_cases q : c = a
      · rw [q]; exact he
      · rw [hs.2 c q]; exact g5
    · by_cases q : j = i
      · exact ⟨d', by simp [Rho.own, q]⟩
      · exact ⟨d1, by simp [Rho.own, q]; exact g6⟩
  · unfold Rho.own at e
    by_cases q : j = i
    · subst q
      rw [if_pos rfl, Option.some.injEq, Prod.mk.injEq] at e
      obtain ⟨rfl, rfl⟩ := e
      refine bC fun z_ => ?_
      (obtain ⟨y, u, h1, h2, h3, h4, h5⟩ := hv j true d hi) <;> refine z_ ?_ <;> clear z_
      refine bC fun z_ => ?_
      (obtain ⟨a', rfl, h6⟩ := h5 rfl) <;> refine z_ ?_ <;> clear z_
      rw [ha] at h6; cases h6
      exact ⟨y, _, h1, h2, rt, fun z => by (cases z), fun _ => ⟨a, rfl, ha⟩⟩
    · rw [if_neg q] at e
      refine bC fun z_ => ?_
      (obtain ⟨y, u, h1, h2, h3, h4, h5⟩ := hv j b dd e) <;> refine z_ ?_ <;> clear z_
      refine ⟨y, u, h1, h2, ?_, h4, h5⟩
      cases b with
      | false => exact (h4 rfl).top gle'
      | true =>
        refine bC fun z_ => ?_
        (obtain ⟨a', rfl, h6⟩ := h5 rfl) <;> refine z_ ?_ <;> clear z_
        refine h3.same fun c e => ?_
        cases e
        exact hs.2 _ fun z => q (F.inj j i a (z ▸ h6) ha)
theorem ExtS.turn {i : Nat} {a : Addr} {s s' : Shared} (ha : ow i = some a) (hs : Heap.SameBut a s.heap s'.heap) (ho : s'.os = s.os) (hg : s'.gens = s.gens) : ExtS env ow ow s s' G G :=
  ⟨fun b o hb _ e => (hs.2 b fun q => hb (.inr (.inr ⟨i, q ▸ ha⟩))).trans e, PH.le.refl _, fun _ _ _ _ => rfl, fun _ h => .inl h, ho, fun q => hg ▸ q⟩
end
end Mine
end

/- part EE -/
section
open PySem PySem.W PyProof.Rows PySem.Calls PySem.Spec PyProof.V PySem.Builtin PySem.Builtin.Str
set_option maxRecDepth 10000
namespace Mine
noncomputable def FlRel (G : PH) : Fl → Flow → Prop
  | .next, .next => True
  | .ret d, .ret v => Rep G d v
  | _, _ => False
noncomputable def Post (Z : Zz) (env : Env) (h₀ : Heap) (s : Shared) (G : PH) (ow : Nat → Option Addr) (r' : Rho) (q : Fl) (fl : Flow) (s' : Shared) : Prop :=
  ∃ G' ow', ExtS env ow ow' s s' G G' ∧ FR Z env r' G' h₀ s'.heap ow' ∧ FlRel G' q fl
theorem Post.trans {Z : Zz} {env : Env} {h₀ : Heap} {s s' : Shared} {G G' : PH} {ow ow' : Nat → Option Addr} {r' : Rho} {q : Fl} {fl : Flow} {s'' : Shared} (x : ExtS env ow ow' s s' G G') (p : Post Z env h₀ s' G' ow' r' q fl s'') : Post Z env h₀ s G ow r' q fl s'' := by
  refine bC fun z_ => ?_
  (obtain ⟨G2, ow2, y, F, z⟩ := p) <;> refine z_ ?_ <;> clear z_
  exact ⟨G2, ow2, x.trans y, F, z⟩
noncomputable def SndS (U : U0) (l : Nat) (C : Cx) (Z : Zz) (st : Stmt) (S : S) : Prop :=
  ∀ (A : Around) (env : Env) (s : Shared) (h₀ : Heap) (G : PH) (r : Rho) (ow : Nat → Option Addr) (q : Fl) (r' : Rho), EnvOk Z env → Room A l → U.Base h₀ → FR Z env r G h₀ s.heap ow → exec C r S = some (q, r') →
    wpAny (model U.prog U.w) A (PySem.exec st env) (Post Z env h₀ s G ow r' q) (fun _ _ => False) s
noncomputable def SndSs (U : U0) (l : Nat) (C : Cx) (Z : Zz) (st : List Stmt) (S : List S) : Prop :=
  ∀ (A : Around) (env : Env) (s : Shared) (h₀ : Heap) (G : PH) (r : Rho) (ow : Nat → Option Addr) (q : Fl) (r' : Rho), EnvOk Z env → Room A l → U.Base h₀ → FR Z env r G h₀ s.heap ow → execs C r S = some (q, r') →
    wpAny (model U.prog U.w) A (PySem.execs st env) (Post Z env h₀ s G ow r' q) (fun _ _ => False) s
theorem FR.base {U : U0} {Z : Zz} {env : Env} {r : Rho} {G : PH} {h₀ h : Heap} {ow : Nat → Option Addr} (F : FR Z env r G h₀ h ow) (hB : U.Base h₀) : U.Base h := hB.keeps F.keep₀
/- the frame's stores are but its own -/
theorem ExtS.store {env : Env} {ow : Nat → Option Addr} {i : Nat} {s s' : Shared} {G : PH} (k : ∀ c o, c ≠ env.locals → (∀ n, env.cells.lookup n ≠ some c) → s.heap.get? c = some o → s'.heap.get? c = some o) (ho : s'.os = s.os) (hg : s'.gens = s.gens) :
    ExtS env ow (fun j => if j = i then none else ow j) s s' G G := by
  refine ⟨fun b o hb _ e => k b o (fun q => hb (.inl q)) (fun n q => hb (.inr (.inl ⟨n, q⟩))) e, PH.le.refl _, fun _ _ _ _ => rfl, fun b hb => ?_, ho, fun q => hg ▸ q⟩
  rcases hb with q | q | ⟨j, q⟩
  · exact .inl (.inl q)
  · exact .inl (.inr (.inl q))
  · dsimp only at q
    split at q
    · cases q
    · exact .inl (.inr (.inr ⟨j, q⟩))
section
variable {U : U0} {l : Nat} {C : Cx} {Z : Zz}
theorem SndSs.nil : SndSs U l C Z [] [] := by
  intro A env s h₀ G r ow q r' hE hR hB F e
  have e := Option.some.inj e; cases e
  exact wpAny_pure ⟨G, ow, ExtS.refl, F, trivial⟩
theorem SndSs.cons {st : Stmt} {sts : List Stmt} {S : S} {Ss : List Mine.S} (h : SndS U l C Z st S) (t : SndSs U l C Z sts Ss) : SndSs U l C Z (st :: sts) (S :: Ss) := by
  intro A env s h₀ G r ow q r' hE hR hB F e
  have e := bsomeP e
  refine bC fun z_ => ?_
  (obtain ⟨q1, r1, e1, e2⟩ := e) <;> refine z_ ?_ <;> clear z_
  refine wpAny_execs_cons (wpAny_mono (h A env s h₀ G r ow q1 r1 hE hR hB F e1) (fun fl s' h_ => ?_) fun _ _ f => f)
  refine bC fun z_ => ?_
  (obtain ⟨G', ow', x, F', z⟩ := h_) <;> refine z_ ?_ <;> clear z_
  cases q1 with
  | next =>
    cases fl <;> first | (exact z.elim) | skip
    exact wpAny_mono (t A env s' h₀ G' r1 ow' q r' hE hR hB F' e2) (fun fl s'' p => p.trans x) fun _ _ f => f
  | ret d =>
    have e2 := Option.some.inj e2; cases e2
    cases fl <;> first | (exact z.elim) | skip
    exact ⟨G', ow', x, F', z⟩
theorem evF_ok {env : Env} {r r1 : Rho} {G : PH} {h₀ : Heap} {s : Shared} {ow : Nat → Option Addr} {x : X} {d : D} (F : FR Z env r G h₀ s.heap ow) (e : evF C r x = some (d, r1)) :
    ∃ G1 ow1, FR Z env r1 G1 h₀ s.heap ow1 ∧ ExtS env ow ow1 s s G G1 ∧ ev C r1 x = some d := by
  unfold evF at e
  split at e
  · rename_i q; cases e; exact ⟨G, ow, F, ExtS.refl, q⟩
  · rw [Option.map_eq_some_iff] at e
    refine bC fun z_ => ?_
    (obtain ⟨d', e1, e2⟩ := e) <;> refine z_ ?_ <;> clear z_
    cases e2
    refine bC fun z_ => ?_
    (obtain ⟨G', F', x'⟩ := F.freeze) <;> refine z_ ?_ <;> clear z_
    exact ⟨G', _, F', x', e1⟩
theorem evIF_ok {env : Env} {r r1 : Rho} {G : PH} {h₀ : Heap} {s : Shared} {ow : Nat → Option Addr} {x : I} {d : List D} (F : FR Z env r G h₀ s.heap ow) (e : evIF C r x = some (d, r1)) :
    ∃ G1 ow1, FR Z env r1 G1 h₀ s.heap ow1 ∧ ExtS env ow ow1 s s G G1 ∧ evI C r1 x = some d := by
  unfold evIF at e
  split at e
  · rename_i q; cases e; exact ⟨G, ow, F, ExtS.refl, q⟩
  · rw [Option.map_eq_some_iff] at e
    refine bC fun z_ => ?_
    (obtain ⟨d', e1, e2⟩ := e) <;> refine z_ ?_ <;> clear z_
    cases e2
    refine bC fun z_ => ?_
    (obtain ⟨G', F', x'⟩ := F.freeze) <;> refine z_ ?_ <;> clear z_
    exact ⟨G', _, F', x', e1⟩
/- a plain store -/
theorem set_ok {prog : Program} {w : World} {A : Around} {env : Env} {r : Rho} {G : PH} {h₀ : Heap} {ow : Nat → Option Addr} {s : Shared} {i : Nat} {x : Str} {d : D} {v : Value} {Q : Unit → Shared → Prop} {E : Value → Shared → Prop} (hE : EnvOk Z env) (F : FR Z env r G h₀ s.heap ow) (hs : Storable Z i x) (rv : Rep G d v)
    (k : ∀ s' ow', FR Z env (r.set i d) G h₀ s'.heap ow' → ExtS env ow ow' s s' G G → Q () s') : wpAny (model prog w) A (storeName env x v) Q E s :=
  store_ok (b := false) hE F hs (rv.top F.gle) (fun _ => rv) (fun q => by cases q) fun s' F' k' ho hg => k s' _ F' (by simpa using ExtS.store k' ho hg)
theorem SndS.assign {x : Str} {px pos : Pos} {value : Expr} {i : Nat} {y : X} (h : Snd U l C Z value y) (hs : Storable Z i x) (hsw : ∀ env, swapsWith value (some (.Name x px)) pos.line env = pure false) : SndS U l C Z (.Assign [.Name x px] value pos) (.assign [i] y) := by
  intro A env s h₀ G r ow q r' hE hR hB F e
  have e := bsomeP e
  refine bC fun z_ => ?_
  (obtain ⟨d, r1, e1, e2⟩ := e) <;> refine z_ ?_ <;> clear z_
  have e3 := Option.some.inj e2; clear e2; cases e3
  refine bC fun z_ => ?_
  (obtain ⟨G1, ow1, F1, x1, e1⟩ := evF_ok F e1) <;> refine z_ ?_ <;> clear z_
  refine wpAny_Assign_Name ((h A env s G1 r1 d hE hR (F.base hB) F1.rel e1).use fun v s' G' x2 r2 => ?_) (hsw env)
  refine set_ok hE (F1.ext x2) hs r2 fun s'' ow' F' x3 => ⟨G', ow', (x1.trans x2.toS).trans x3, F', trivial⟩
/- a comprehension's list goes straight to a name -/
theorem SndS.assignComp {elt iter : Expr} {x z : Str} {px pz : Pos} {ifs : List Expr} {scope : Scope} {pos spos : Pos} {t i : Nat} {caps : List Nat} {c : Option B} {y : X} {it : I}
    (H : BlkOk scope Z.sc Z.tbl caps) (ht : Z.tbl[t]? = some x) (hx : scope.names.lookup x = some .local) (hi : SndI U l C Z iter it) (hc : SndC U l C (blkZ scope Z) ifs c) (hy : Snd U l C (blkZ scope Z) elt y)
    (hs : ∀ env x, foldedSetIterable iter env x = pure x) (hst : Storable Z i z)
    (hsw : ∀ env, EnvOk Z env → swapsWith (.ListComp elt [⟨.Name x px, iter, ifs, 0⟩] scope pos) (some (.Name z pz)) spos.line env = pure true) :
    SndS U l C Z (.Assign [.Name z pz] (.ListComp elt [⟨.Name x px, iter, ifs, 0⟩] scope pos) spos) (.assign [i] (.comp [t] caps it c y)) := by
  intro A env s h₀ G r ow q r' hE hR hB F e
  have e := bsomeP e
  refine bC fun z_ => ?_
  (obtain ⟨d, r1, e1, e2⟩ := e) <;> refine z_ ?_ <;> clear z_
  have e3 := Option.some.inj e2; clear e2; cases e3
  refine bC fun z_ => ?_
  (obtain ⟨G1, ow1, F1, x1, ea⟩ := evF_ok F e1) <;> refine z_ ?_ <;> clear z_
  obtain ⟨ds, eb, k_⟩ := bsome ea
  obtain ⟨_, e0, k_⟩ := bsome k_
  obtain ⟨qs, e2, q⟩ := bsome k_
  obtain ⟨hl, rfl⟩ := lenOk_some q
  rw [exec_Assign_Name_used _ _ _ _ (hsw env hE)]
  refine wpAny_bind (wpAny_standAt (wpAny_bind ?_))
  show wpAny _ A (do let _ ← comprehension (.ListComp elt [⟨.Name x px, iter, ifs, 0⟩] scope pos) scope env _ (newList []) false (eval iter env) (some (PySem.assign (.Name z pz) env))) _ _ s
  refine wpAny_bind (wpAny_mono (wpAny_comprehension_free (use := some (PySem.assign (.Name z pz) env)) (Q := fun _ s' => Post Z env h₀ s G ow (r1.set i (.list qs)) .next .next s') rfl (hs env) (blk_cl H hE) H.kind H.names
    (wpAny_mono (hi A env s G1 r1 ds hE hR (F.base hB) F1.rel eb) (fun xv s₁ h₁ => wpAny_mono h₁ (fun itv s₂ ⟨G₂, x₂, hI⟩ => ?_) fun _ _ f => f) fun _ _ f => f)) (fun _ s' hq => wpAny_pure (wpAny_pure hq)) fun _ _ e => e)
  refine comp_block (RR := fun acc C => compPost (model U.prog U.w) A (fun _ _ => False) (some (PySem.assign (.Name z pz) env)) (fun _ s' => Post Z env h₀ s G ow (r1.set i (.list qs)) .next .next s') acc C) H ht hx hc hy hE hR (F.base hB) F1.rel x₂ hI (lenOk_some e0).1 (by simp only [Option.bind_eq_bind]; exact e2) ?_
  intro D L s' G' ys n m x' hD0 hL0 hDL gD gL hD rd hn
  show wpAny _ A (PySem.assign (.Name z pz) env (.ref D)) _ _ s'
  have x3 := x'.keepNew hD0 gD hD
  have rv : Rep (G'.put D (lstO ys n)) (.list qs) (.ref D) := by
    simp only [Rep]
    exact ⟨_, _, _, rfl, PH.put_self _ _ _, rd.mono (PH.le_put gD)⟩
  refine wpAny_assign_Name (set_ok hE (F1.ext x3) hst rv fun s'' ow' F' x4 => ?_)
  have hLm : ¬ Mt env ow1 L := fun hm => by have := (F1.mtG hm).2.2; rw [hL0] at this; cases this
  refine bC fun z_ => ?_
  (obtain ⟨oL, es, ep, hL, hLr⟩ := hn) <;> refine z_ ?_ <;> clear z_
  have hn'' : s''.heap.Ns L m := ⟨oL, es, ep, x4.keep _ _ hLm ((F.base hB).np hL0) hL, hLr⟩
  refine ⟨m, hn'', fun h' hs' => ?_⟩
  -- the block's own dict is let go
  have hLG : (G'.put D (lstO ys n)) L = none := by simp [PH.put, Ne.symm hDL, gL]
  have hL0' : h₀.get? L = none := F.keep₀.dead hL0
  have hLm' : ¬ Mt env ow' L := fun hm => by
    rcases x4.mt _ hm with q | q | q
    · exact hLm q
    · rw [hL] at q; cases q
    · exact (F.base hB).np hL0 q
  have F5 : FR Z env (r1.set i (.list qs)) (G'.put D (lstO ys n)) h₀ h' ow' := by
    refine bC fun z_ => ?_
    (obtain ⟨m1, cm1, hn1, hc1, hv1⟩ := F'.vars) <;> refine z_ ?_ <;> clear z_
    have ne : ∀ b, Mt env ow' b → b ≠ L := fun b hb q => hLm' (q ▸ hb)
    refine ⟨F'.keep₀.step fun b o e e' => hs'.extBut b o (fun q => by rw [q, hL0'] at e; cases e) e', fun a o e => hs'.extBut a o (fun q => by rw [q, hLG] at e; cases e) (F'.gle a o e), F'.fresh, F'.gL, F'.cel, F'.apart, fun j a e => ?_, F'.inj, m1, cm1, hn1.sameBut hs' (ne _ (.inl rfl)), fun n c e => (hc1 n c e).sameBut hs' (ne _ (.inr (.inl ⟨n, e⟩))), fun j b d e => ?_⟩
    · obtain ⟨g1, g2, g3, g4, g5, g6⟩ := F'.own j a e
      exact ⟨g1, g2, g3, g4, by rw [hs'.2 a (ne _ (.inr (.inr ⟨j, e⟩)))]; exact g5, g6⟩
    · obtain ⟨y, u, h1, h2, h3, h4, h5⟩ := hv1 j b d e
      refine ⟨y, u, h1, h2, ?_, h4, h5⟩
      cases b with
      | false => exact (h4 rfl).top fun a o e => hs'.extBut a o (fun q => by rw [q, hLG] at e; cases e) (F'.gle a o e)
      | true =>
        refine bC fun z_ => ?_
        (obtain ⟨a', rfl, h6⟩ := h5 rfl) <;> refine z_ ?_ <;> clear z_
        exact h3.same fun c e => by cases e; exact hs'.2 _ (ne _ (.inr (.inr ⟨j, h6⟩)))
  have Y := (x1.trans x3.toS).trans x4
  exact ⟨_, ow', ⟨fun b o hb n e => hs'.extBut b o (fun q => by rw [q, hL0] at e; cases e) (Y.keep b o hb n e), Y.le, Y.old, Y.mt, Y.os, Y.gens⟩, F5, trivial⟩
end
end Mine
end

/- part EF -/
section
open PySem PySem.W PyProof.Rows PySem.Calls PySem.Spec PyProof.V PySem.Builtin PySem.Builtin.Str
set_option maxRecDepth 10000
namespace Mine
section
variable {prog : Program} {w : World} {A : Around} {s : Shared} {G : PH} {E : Value → Shared → Prop}
theorem draw_walk {I : Addr} {fp wr : List Addr} {n : Nat} {P : Nat → Value → Prop} {St : Nat → Heap → Prop} (W : Walks prog w A I fp wr n P St) : ∀ (k i : Nat) (s : Shared) (Q : List Value → Shared → Prop), St i s.heap → i + k ≤ n →
    (∀ (vs : List Value) h' tk, vs.length = k → (∀ (j : Nat) (v : Value), vs[j]? = some v → P (i + j) v) → St (i + k) h' → (∀ b o, b ∉ wr → s.heap.get? b = some o → h'.get? b = some o) → Q vs { s with heap := h', toks := tk }) →
    wpAny (model prog w) A (draw (.ref I) k) Q E s
  | 0, i, s, Q, st, _, hQ => wpAny_pure (hQ [] s.heap s.toks rfl (fun j v e => by simp at e) st fun _ _ _ e => e)
  | k + 1, i, s, Q, st, hle, hQ => by
    show wpAny _ _ (pyNext (.ref I) >>= _) Q E s
    refine wpAny_bind (W.item i _ _ _ (by omega) st fun v h₁ tk₁ hv st₁ hk₁ => ?_)
    refine wpAny_bind (wpAny_holding (draw_walk W k (i + 1) _ _ st₁ (by omega) fun vs h₂ tk₂ hl hP st₂ hk₂ => wpAny_pure ?_))
    refine hQ (v :: vs) h₂ tk₂ (by simp [hl]) (fun j u hj => ?_) (by rw [show i + (k + 1) = i + 1 + k by omega]; exact st₂) fun b o hb e => hk₂ b o hb (hk₁ b o hb e)
    cases j with
    | zero => simp only [List.getElem?_cons_zero, Option.some.injEq] at hj; subst hj; exact hv
    | succ j => have := hP j u (by simpa using hj); rw [show i + (j + 1) = i + 1 + j by omega]; exact this
theorem unpack_list {t : Addr} {items : Array Value} {Q : List Value → Shared → Prop} (hh : A.handled = none) (ht : s.heap.IsList t items)
    (hQ : ∀ h' tk, (∀ b o, s.heap.get? b = some o → h'.get? b = some o) → Q items.toList { s with heap := h', toks := tk }) : wpAny (model prog w) A (unpackItems (.ref t) items.size none) Q E s := by
  have hlt : t ≠ s.heap.objs.size := by obtain ⟨o, ho, _⟩ := ht; exact Nat.ne_of_lt (Heap.lt_size ho)
  unfold unpackItems
  refine wpAny_bind ?_
  unfold notIterableAtAll
  refine wpAny_bind (wpAny_specialOf ht.typeIs slot_list_iter.lookup ?_)
  refine wpAny_pure ?_
  simp only [Bool.false_eq_true, if_false]
  refine wpAny_bind (wpAny_holding (wpAny_pyIter_list ht ?_))
  have W := Walks.list (prog := prog) (w := w) (A := A) hh s.heap.objs.size t hlt items
  refine wpAny_bind (wpAny_holding (draw_walk W items.size 0 _ _ ⟨⟨_, Heap.get?_push_size _ rfl, rfl, rfl⟩, ht.push _⟩ (by omega) fun vs h₁ tk₁ hl hP st₁ hk₁ => ?_))
  rw [if_neg (by omega)]
  refine wpAny_bind (wpAny_holding (W.done _ _ _ (by rw [Nat.zero_add] at st₁; exact st₁) fun h₂ tk₂ hk₂ => ?_))
  simp only [Option.isSome_none, Bool.false_eq_true, if_false]
  have e : vs = items.toList := by
    apply List.ext_getElem?
    intro j
    by_cases hj : j < vs.length
    · have h1 : vs[j]? = some vs[j] := List.getElem?_eq_getElem hj
      have := hP j _ h1
      rw [Nat.zero_add] at this
      rw [h1, Array.getElem?_toList]; exact this.symm
    · rw [List.getElem?_eq_none (by omega), List.getElem?_eq_none (by rw [Array.length_toList]; omega)]
  subst e
  refine wpAny_pure (hQ h₂ tk₂ fun b o e => ?_)
  have hb : b ∉ [s.heap.objs.size] := fun q => by rw [List.mem_singleton.mp q] at e; exact absurd rfl (ne_size e)
  exact hk₂ b o hb (hk₁ b o hb (Heap.get?_push_of_some _ e))
end
/- the names of a target -/
noncomputable def NamesAre (Z : Zz) : List Expr → List Nat → Prop
  | [], [] => True
  | e :: es, i :: is => (∃ x p, e = .Name x p ∧ Storable Z i x) ∧ NamesAre Z es is
  | _, _ => False
theorem NamesAre.length {Z : Zz} : ∀ {es : List Expr} {is : List Nat}, NamesAre Z es is → es.length = is.length
  | [], [], _ => rfl
  | _ :: _, _ :: _, h => by rw [List.length_cons, List.length_cons, NamesAre.length h.2]
  | [], _ :: _, h => h.elim
  | _ :: _, [], h => h.elim
theorem NamesAre.each {Z : Zz} (env : Env) : ∀ {es : List Expr} {is : List Nat}, NamesAre Z es is → (assignEach es env).length = es.length ∧ (assignEach es env).findIdx? (·.1) = none
  | [], [], _ => ⟨rfl, rfl⟩
  | _ :: es, _ :: _, ⟨⟨x, p, e, _⟩, h⟩ => by
    subst e
    obtain ⟨h1, h2⟩ := NamesAre.each env h
    refine ⟨by show (assignEach es env).length + 1 = _; rw [h1]; rfl, ?_⟩
    show ((false, PySem.assign (.Name x p) env) :: assignEach es env).findIdx? (·.1) = none
    rw [List.findIdx?_cons, h2]; rfl
  | [], _ :: _, h => h.elim
  | _ :: _, [], h => h.elim
section
variable {U : U0} {l : Nat} {C : Cx} {Z : Zz}
theorem ExtS.grow {env : Env} {ow : Nat → Option Addr} {s : Shared} {G : PH} {h' : Heap} {tk : Nat} (hk : ∀ b o, s.heap.get? b = some o → h'.get? b = some o) : ExtS env ow ow s { s with heap := h', toks := tk } G G :=
  ⟨fun b o _ _ e => hk b o e, PH.le.refl _, fun _ _ _ _ => rfl, fun _ h => .inl h, rfl, id⟩
theorem stores_ok {A : Around} {env : Env} {h₀ : Heap} {G : PH} (hE : EnvOk Z env) {Q : Unit → Shared → Prop} {E : Value → Shared → Prop} : ∀ {es : List Expr} {is : List Nat} {ds : List D} {vs : List Value} {r r' : Rho} {ow : Nat → Option Addr} {s : Shared},
    NamesAre Z es is → RepL G ds vs → FR Z env r G h₀ s.heap ow → r.setAll is ds = some r' → (∀ s' ow', FR Z env r' G h₀ s'.heap ow' → ExtS env ow ow' s s' G G → Q () s') →
    wpAny (model U.prog U.w) A (assignInOrder ((assignEach es env).map (·.2)) vs) Q E s
  | [], [], ds, vs, r, r', ow, s, _, rv, F, e, k => by
    obtain ⟨e1, e2⟩ := setAll_nil e
    subst e1 e2
    exact assignInOrder_nil (k s ow F ExtS.refl)
  | _ :: es, i :: is, ds, vs, r, r', ow, s, ⟨⟨x, p, e1, hs⟩, h⟩, rv, F, e, k => by
    subst e1
    refine bC fun z_ => ?_
    (obtain ⟨d, ds', e2, e⟩ := setAll_cons e; subst e2; obtain ⟨v, vs', e3, r1, r2⟩ := rv.cons_iff; subst e3) <;> refine z_ ?_ <;> clear z_
    show wpAny _ _ (assignInOrder (PySem.assign (.Name x p) env :: (assignEach es env).map (·.2)) (v :: vs')) Q E s
    refine assignInOrder_cons (wpAny_assign_Name (set_ok hE F hs r1 fun s' ow' F' x' => ?_))
    exact stores_ok hE h r2 F' e fun s'' ow'' F'' x'' => k s'' ow'' F'' (x'.trans x'')
  | [], _ :: _, _, _, _, _, _, _, h, _, _, _, _ => h.elim
  | _ :: _, [], _, _, _, _, _, _, h, _, _, _, _ => h.elim
theorem spread_inv {G : PH} {r r' : Rho} {is : List Nat} {d : D} {v : Value} (e : spread r is d = some r') (rv : Rep G d v) : ∃ a vs n l, v = .ref a ∧ RepL G l vs.toList ∧ r.setAll is l = some r' ∧ (G a = some (tupO vs n) ∨ G a = some (lstO vs n)) := by
  obtain ⟨l, h, e⟩ := bsome e
  cases d with
  | tup l' =>
    have := Option.some.inj h; subst this
    obtain ⟨a, vs, n, e1, g, r2⟩ := Rep.tup_iff rv
    exact ⟨a, vs, n, _, e1, r2, e, .inl g⟩
  | list l' =>
    have := Option.some.inj h; subst this
    obtain ⟨a, vs, n, e1, g, r2⟩ := Rep.list_iff rv
    exact ⟨a, vs, n, _, e1, r2, e, .inr g⟩
  | _ => exact nope h
theorem unpack_any {prog : Program} {w : World} {A : Around} {s : Shared} {a : Addr} {vs : Array Value} {n k : Nat} (hh : A.handled = none) (hg : s.heap.get? a = some (tupO vs n) ∨ s.heap.get? a = some (lstO vs n)) (hs : vs.size = k) {Q : List Value → Shared → Prop} {E : Value → Shared → Prop}
    (kk : ∀ h' tk, (∀ b o, s.heap.get? b = some o → h'.get? b = some o) → Q vs.toList { s with heap := h', toks := tk }) : wpAny (model prog w) A (unpackItems (.ref a) k none) Q E s := by
  subst hs
  rcases hg with g | g
  · exact unpackItems_tuple hh ⟨_, g, rfl, n, rfl⟩ fun h' he => kk h' s.toks fun b o e => he b o (Nat.ne_of_lt (Heap.lt_size e)) e
  · exact unpack_list hh ⟨_, g, rfl, n, rfl⟩ fun h' tk hk => kk h' tk hk
/- a tuple or a list goes to names -/
theorem unpack_ok {A : Around} {env : Env} {h₀ : Heap} {G : PH} {es : List Expr} {is : List Nat} {d : D} {v : Value} {r r' : Rho} {ow : Nat → Option Addr} {s : Shared} {k : Nat} {tpos : Pos} (hh : A.handled = none) (hE : EnvOk Z env) (hn : NamesAre Z es is) (rv : Rep G d v) (F : FR Z env r G h₀ s.heap ow)
    (e : spread r is d = some r') {Q : Unit → Shared → Prop} {E : Value → Shared → Prop} (kk : ∀ s' ow', FR Z env r' G h₀ s'.heap ow' → ExtS env ow ow' s s' G G → Q () s') :
    wpAny (model U.prog U.w) A (PySem.assign (.Tuple es k tpos) env v) Q E s := by
  obtain ⟨hl, hf⟩ := hn.each env
  have hln := hn.length
  refine bC fun z_ => ?_
  (obtain ⟨a, vs, n, l', rfl, r2, e, hg⟩ := spread_inv e rv) <;> refine z_ ?_ <;> clear z_
  have h1 := r2.length; rw [Array.length_toList] at h1
  have h2 := setAll_len e
  rw [PyProof.Rows.assign_Tuple]
  refine wpAny_bind (wpAny_standAt ?_)
  unfold unpack
  rw [show (assignEach es env).length = vs.size from by omega, hf]
  refine wpAny_bind (wpAny_holding (unpack_any hh (hg.imp (F.gle _ _) (F.gle _ _)) rfl fun h' tk hk => ?_))
  have x1 := ExtE.grow (tk := tk) F.gle hk
  exact stores_ok hE hn r2 (F.ext x1) e fun s' ow' F' x' => kk s' ow' F' ((ExtS.grow (tk := tk) hk).trans x')
theorem put_many {r : Rho} {is : List Nat} {d : D} (h : is.length ≠ 1) : r.put is d = spread r is d := by
  match is, h with
  | [], _ => rfl
  | [_], h => exact absurd rfl h
  | _ :: _ :: _, _ => rfl
theorem SndS.assignTup {es : List Expr} {is : List Nat} {k : Nat} {tpos pos : Pos} {value : Expr} {y : X} (h : Snd U l C Z value y) (hn : NamesAre Z es is) (hl : is.length ≠ 1)
    (hs : ∀ env, swapsWithSole [.Tuple es k tpos] value pos.line env = pure false) (hw : ∀ env, EnvOk Z env → swappedStores [.Tuple es k tpos] value env = pure none) : SndS U l C Z (.Assign [.Tuple es k tpos] value pos) (.assign is y) := by
  intro A env s h₀ G r ow q r' hE hR hB F e
  obtain ⟨d, r1, e1, k_⟩ := bsomeP e
  obtain ⟨rz, e2, e3⟩ := bsome k_
  cases e3
  rw [put_many hl] at e2
  refine bC fun z_ => ?_
  (obtain ⟨G1, ow1, F1, x1, ea⟩ := evF_ok F e1) <;> refine z_ ?_ <;> clear z_
  refine Assign_Tuple ((h A env s G1 r1 d hE hR (F.base hB) F1.rel ea).use fun v s' G' x2 r2 => ?_) (hs env) (hw env hE)
  exact unpack_ok hR.hand hE hn r2 (F1.ext x2) e2 fun s'' ow' F' x3 => ⟨G', ow', (x1.trans x2.toS).trans x3, F', trivial⟩
theorem set_comm (r : Rho) {i j : Nat} (h : i ≠ j) (d e : D) : (r.set i d).set j e = (r.set j e).set i d := by
  funext k
  unfold Rho.set
  by_cases q : k = j
  · subst q; rw [if_pos rfl, if_neg (Ne.symm h), if_pos rfl]
  · rw [if_neg q]
    by_cases q' : k = i
    · rw [if_pos q', if_pos q']
    · rw [if_neg q', if_neg q', if_neg q]
/- two or three names, stored from the last on -/
theorem SndS.assignSwap2 {x1 x2 : Str} {p1 p2 : Pos} {i1 i2 : Nat} {k : Nat} {tpos pos : Pos} {value : Expr} {y : X} (h : Snd U l C Z value y) (h1 : Storable Z i1 x1) (h2 : Storable Z i2 x2) (ne : i1 ≠ i2)
    (hs : ∀ env, swapsWithSole [.Tuple [.Name x1 p1, .Name x2 p2] k tpos] value pos.line env = pure false) (hw : ∀ env, EnvOk Z env → swappedStores [.Tuple [.Name x1 p1, .Name x2 p2] k tpos] value env = pure (some [x1, x2])) :
    SndS U l C Z (.Assign [.Tuple [.Name x1 p1, .Name x2 p2] k tpos] value pos) (.assign [i1, i2] y) := by
  intro A env s h₀ G r ow q r' hE hR hB F e
  obtain ⟨d, r1, e1, k_⟩ := bsomeP e
  obtain ⟨rz, e2, e3⟩ := bsome k_
  cases e3
  rw [put_many (by simp)] at e2
  refine bC fun z_ => ?_
  (obtain ⟨G1, ow1, F1, y1, ea⟩ := evF_ok F e1) <;> refine z_ ?_ <;> clear z_
  refine Assign_Tuple_swapped (names := [x1, x2]) ((h A env s G1 r1 d hE hR (F.base hB) F1.rel ea).use fun v s' G' y2 rv => ?_) (hs env) (hw env hE)
  have fin : ∀ (u1 u2 : Value) (l2 : D) (l1 : D) (h' : Heap) (tk : Nat), Rep G' l1 u1 → Rep G' l2 u2 → (∀ b o, s'.heap.get? b = some o → h'.get? b = some o) → r' = (r1.set i1 l1).set i2 l2 →
      wpAny (model U.prog U.w) A (assignInOrder ([x1, x2].reverse.map fun n => bindName env n) [u1, u2].reverse) (fun _ => Post Z env h₀ s G ow r' .next .next) (fun _ _ => False) { s' with heap := h', toks := tk } := by
    intro u1 u2 l2 l1 h' tk ru1 ru2 hk hr
    have z := ExtE.grow (tk := tk) y2.sub hk
    show wpAny _ _ (assignInOrder [bindName env x2, bindName env x1] [u2, u1]) _ _ _
    refine assignInOrder_cons (wpAny_bindName (set_ok hE (F1.ext (y2.trans z)) h2 ru2 fun s3 ow3 F3 z3 => assignInOrder_cons (wpAny_bindName (set_ok hE F3 h1 ru1 fun s4 ow4 F4 z4 => assignInOrder_nil ?_))))
    refine ⟨G', ow4, (((y1.trans y2.toS).trans z.toS).trans z3).trans z4, ?_, trivial⟩
    rw [hr, set_comm _ ne]; exact F4
  refine bC fun z_ => ?_
  (obtain ⟨a, vs, n, l', rfl, rr, m0, hg⟩ := spread_inv e2 rv; obtain ⟨l1, t1, rfl, m1⟩ := setAll_cons m0; obtain ⟨l2, t2, rfl, m2⟩ := setAll_cons m1; obtain ⟨rfl, m3⟩ := setAll_nil m2
   obtain ⟨u1, q1, ev1, ru1, rr1⟩ := rr.cons_iff; obtain ⟨u2, q2, rfl, ru2, rr2⟩ := rr1.cons_iff; have e0 := rr2.nil_iff; subst e0) <;> refine z_ ?_ <;> clear z_
  refine unpack_any hR.hand (hg.imp (y2.sub _ _) (y2.sub _ _)) (by rw [← Array.length_toList, ev1]; rfl) fun h' tk hk => ?_
  rw [ev1]
  exact fin u1 u2 l2 l1 h' tk ru1 ru2 hk m3
theorem SndS.assignSwap3 {x1 x2 x3 : Str} {p1 p2 p3 : Pos} {i1 i2 i3 : Nat} {k : Nat} {tpos pos : Pos} {value : Expr} {y : X} (h : Snd U l C Z value y) (h1 : Storable Z i1 x1) (h2 : Storable Z i2 x2) (h3 : Storable Z i3 x3) (ne12 : i1 ≠ i2) (ne13 : i1 ≠ i3) (ne23 : i2 ≠ i3)
    (hs : ∀ env, swapsWithSole [.Tuple [.Name x1 p1, .Name x2 p2, .Name x3 p3] k tpos] value pos.line env = pure false) (hw : ∀ env, EnvOk Z env → swappedStores [.Tuple [.Name x1 p1, .Name x2 p2, .Name x3 p3] k tpos] value env = pure (some [x1, x2, x3])) :
    SndS U l C Z (.Assign [.Tuple [.Name x1 p1, .Name x2 p2, .Name x3 p3] k tpos] value pos) (.assign [i1, i2, i3] y) := by
  intro A env s h₀ G r ow q r' hE hR hB F e
  obtain ⟨d, r1, e1, k_⟩ := bsomeP e
  obtain ⟨rz, e2, e3⟩ := bsome k_
  cases e3
  rw [put_many (by simp)] at e2
  refine bC fun z_ => ?_
  (obtain ⟨G1, ow1, F1, y1, ea⟩ := evF_ok F e1) <;> refine z_ ?_ <;> clear z_
  refine Assign_Tuple_swapped (names := [x1, x2, x3]) ((h A env s G1 r1 d hE hR (F.base hB) F1.rel ea).use fun v s' G' y2 rv => ?_) (hs env) (hw env hE)
  refine bC fun z_ => ?_
  (obtain ⟨a, vs, n, l', rfl, rr, m0, hg⟩ := spread_inv e2 rv; obtain ⟨l1, t1, rfl, m1⟩ := setAll_cons m0; obtain ⟨l2, t2, rfl, m2⟩ := setAll_cons m1; obtain ⟨l3, t3, rfl, m3⟩ := setAll_cons m2; obtain ⟨rfl, m4⟩ := setAll_nil m3
   obtain ⟨u1, q1, ev1, ru1, rr1⟩ := rr.cons_iff; obtain ⟨u2, q2, rfl, ru2, rr2⟩ := rr1.cons_iff; obtain ⟨u3, q3, rfl, ru3, rr3⟩ := rr2.cons_iff; have e0 := rr3.nil_iff; subst e0) <;> refine z_ ?_ <;> clear z_
  refine unpack_any hR.hand (hg.imp (y2.sub _ _) (y2.sub _ _)) (by rw [← Array.length_toList, ev1]; rfl) fun h' tk hk => ?_
  rw [ev1]
  have z := ExtE.grow (tk := tk) y2.sub hk
  show wpAny _ _ (assignInOrder [bindName env x3, bindName env x2, bindName env x1] [u3, u2, u1]) _ _ _
  refine assignInOrder_cons (wpAny_bindName (set_ok hE (F1.ext (y2.trans z)) h3 ru3 fun s3 ow3 F3 z3 => assignInOrder_cons (wpAny_bindName (set_ok hE F3 h2 ru2 fun s4 ow4 F4 z4 =>
    assignInOrder_cons (wpAny_bindName (set_ok hE F4 h1 ru1 fun s5 ow5 F5 z5 => assignInOrder_nil ?_))))))
  refine ⟨G', ow5, ((((y1.trans y2.toS).trans z.toS).trans z3).trans z4).trans z5, ?_, trivial⟩
  rw [m4, set_comm (r1.set i1 l1) ne23, set_comm r1 ne13, set_comm (r1.set i3 l3) ne12]; exact F5
end
end Mine
end

/- part EG -/
section
open PySem PySem.W PyProof.Rows PySem.Calls PySem.Spec PyProof.V PySem.Builtin PySem.Builtin.Str
set_option maxRecDepth 10000
namespace Mine
section
variable {U : U0} {l : Nat} {C : Cx} {Z : Zz}
theorem own_set_comm (r : Rho) {i j : Nat} (h : i ≠ j) (d e : D) : (r.own i d).set j e = (r.set j e).own i d := by
  funext k
  simp only [Rho.set, Rho.own]
  by_cases q : k = j
  · subst q; simp [Ne.symm h]
  · simp [q]
/- what is new since s₀ -/
structure NewAt (s₀ s : Shared) (G : PH) (d : D) (v : Value) (a : Addr) : Prop where
  top : RepTop s.heap G d v
  ref : v = .ref a
  no : s₀.heap.get? a = none
  g : G a = none
  kind : d.isObj = true
theorem NewAt.some {s₀ s : Shared} {G : PH} {d : D} {v : Value} {a : Addr} (n : NewAt s₀ s G d v a) : (s.heap.get? a).isSome = true := by
  refine bC fun z_ => ?_
  (obtain ⟨t, e, _, _, k⟩ := n) <;> refine z_ ?_ <;> clear z_
  subst e
  cases d with
  | list l => obtain ⟨a', vs, n, e, g, q⟩ := t; cases e; rw [g]; rfl
  | dict l => obtain ⟨a', o, kvs, e, g, q⟩ := t; cases e; rw [g]; rfl
  | _ => simp [D.isObj] at k
theorem NewAt.ext {s₀ s s' : Shared} {G G' : PH} {d : D} {v : Value} {a : Addr} (n : NewAt s₀ s G d v a) (t : TabOk s.heap) (x : ExtE s s' G G') : NewAt s₀ s' G' d v a :=
  ⟨n.top.mono t x.keep x.le, n.ref, n.no, by rw [x.old a n.some]; exact n.g, n.kind⟩
theorem FR.notOwn {env : Env} {r : Rho} {G : PH} {h₀ : Heap} {ow : Nat → Option Addr} {s₀ : Shared} (F : FR Z env r G h₀ s₀.heap ow) {a : Addr} (h : s₀.heap.get? a = none) : h₀.get? a = none ∧ ¬ Mt env ow a := by
  exact ⟨F.keep₀.dead h, fun q => by have := (F.mtG q).2.2; rw [h] at this; cases this⟩
theorem own_ok {prog : Program} {w : World} {A : Around} {env : Env} {r : Rho} {G G₀ : PH} {h₀ : Heap} {ow ow₀ : Nat → Option Addr} {s s₀ : Shared} {i : Nat} {x : Str} {d : D} {v : Value} {a : Addr} {Q : Unit → Shared → Prop} {E : Value → Shared → Prop} (hE : EnvOk Z env) (F : FR Z env r G h₀ s.heap ow) (hs : Storable Z i x)
    (n : NewAt s₀ s G d v a) (X : ExtS env ow₀ ow s₀ s G₀ G) (hm : ¬ Mt env ow a) (h0 : h₀.get? a = none)
    (k : ∀ s' ow', FR Z env (r.own i d) G h₀ s'.heap ow' → ExtS env ow₀ ow' s₀ s' G₀ G → Q () s') : wpAny (model prog w) A (storeName env x v) Q E s := by
  have e := n.ref
  refine store_ok (b := true) hE F hs n.top (fun q => by cases q) (fun _ => ⟨a, e, h0, n.g, fun q => hm (.inl q), fun m q => hm (.inr (.inl ⟨m, q⟩)), n.some, fun j _ q => hm (.inr (.inr ⟨j, q⟩))⟩) fun s' F' k' ho hg => k s' _ F' ?_
  subst e
  refine ⟨fun b o hb n he => k' b o (fun q => hb (.inl q)) (fun m q => hb (.inr (.inl ⟨m, q⟩))) (X.keep b o hb n he), X.le, X.old, fun b hb => ?_, ho.trans X.os, fun q => hg ▸ X.gens q⟩
  rcases hb with q | q | ⟨j, q⟩
  · exact .inl (.inl q)
  · exact .inl (.inr (.inl q))
  · dsimp only at q
    split at q
    · simp only [if_true, refOf, Option.some.injEq] at q; subst q; exact .inr (.inl n.no)
    · exact X.mt b (.inr (.inr ⟨j, q⟩))
theorem SndS.own {x : Str} {px pos : Pos} {value : Expr} {i : Nat} {y : X} (h : SndN U l C Z value y) (hs : Storable Z i x) (hsw : ∀ env, swapsWith value (some (.Name x px)) pos.line env = pure false) : SndS U l C Z (.Assign [.Name x px] value pos) (.own i y) := by
  intro A env s h₀ G r ow q r' hE hR hB F e
  obtain ⟨d, e1, e2⟩ := bsome e
  cases e2
  refine wpAny_Assign_Name (wpAny_mono (h A env s G r d hE hR (F.base hB) F.rel e1) (fun v s' h_ => ?_) fun _ _ f => f.elim) (hsw env)
  refine bC fun z_ => ?_
  (obtain ⟨G', a, x2, rt, hv, h0, hg, hk⟩ := h_) <;> refine z_ ?_ <;> clear z_
  have n : NewAt s s' G' d v a := ⟨rt, hv, h0, hg, hk⟩
  obtain ⟨z1, z2⟩ := F.notOwn h0
  exact own_ok hE (F.ext x2) hs n x2.toS z2 z1 fun s'' ow' F' x3 => ⟨G', ow', x3, F', trivial⟩
/- a display of two, unpacked -/
theorem pair_ok {prog : Program} {w : World} {A : Around} {env : Env} {e1 e2 : Expr} {k : Nat} {pos : Pos} {s : Shared} {Q : Value → Shared → Prop} {E : Value → Shared → Prop} (h1 : notStar e1 = true) (h2 : notStar e2 = true)
    (h : wpAny (model prog w) A (eval e1 env) (fun v1 s1 => wpAny (model prog w) A (eval e2 env) (fun v2 s2 => Q (.ref s2.heap.objs.size) { s2 with heap := s2.heap.push (tupO #[v1, v2] 0) }) E s1) E s) :
    wpAny (model prog w) A (eval (.Tuple [e1, e2] k pos) env) Q E s := by
  refine wpAny_Tuple (wpAny_items_cons (wpAny_mono h (fun v1 s1 h' => wpAny_items_cons (wpAny_mono h' (fun v2 s2 hq => wpAny_items_nil ⟨?_, hq⟩) fun _ _ f => f) (starEach_plain h2)) fun _ _ f => f) (starEach_plain h1))
  exact Nat.le_trans (show 2 ≤ big by decide) big_line
theorem SndS.ownL {x1 x2 : Str} {p1 p2 : Pos} {i1 i2 : Nat} {k k' : Nat} {tpos pos vpos : Pos} {e1 e2 : Expr} {y1 y2 : X} (h1 : SndN U l C Z e1 y1) (h2 : Snd U l C Z e2 y2) (s1 : Storable Z i1 x1) (s2 : Storable Z i2 x2) (ne : i1 ≠ i2) (n1 : notStar e1 = true) (n2 : notStar e2 = true)
    (hs : ∀ env, swapsWithSole [.Tuple [.Name x1 p1, .Name x2 p2] k tpos] (.Tuple [e1, e2] k' vpos) pos.line env = pure false) (hw : ∀ env, EnvOk Z env → swappedStores [.Tuple [.Name x1 p1, .Name x2 p2] k tpos] (.Tuple [e1, e2] k' vpos) env = pure (some [x1, x2])) :
    SndS U l C Z (.Assign [.Tuple [.Name x1 p1, .Name x2 p2] k tpos] (.Tuple [e1, e2] k' vpos) pos) (.ownL i1 i2 y1 y2) := by
  intro A env s h₀ G r ow q r' hE hR hB F e
  obtain ⟨d1, q1, k_⟩ := bsome e
  obtain ⟨d2, q2, e⟩ := bsome k_
  cases e
  refine Assign_Tuple_swapped (names := [x1, x2]) (pair_ok n1 n2 (wpAny_mono (h1 A env s G r d1 hE hR (F.base hB) F.rel q1) (fun v1 s1' h_ => ?_) fun _ _ f => f.elim)) (hs env) (hw env hE)
  refine bC fun z_ => ?_
  (obtain ⟨G1, a, z1, rt, hv, h0, hg, hk⟩ := h_) <;> refine z_ ?_ <;> clear z_
  have n : NewAt s s1' G1 d1 v1 a := ⟨rt, hv, h0, hg, hk⟩
  obtain ⟨c1, c2⟩ := F.notOwn h0
  have F1 := F.ext z1
  refine (h2 A env s1' G1 r d2 hE hR (F1.base hB) F1.rel q2).use fun v2 s2' G2 z2 rv2 => ?_
  have z3 := ExtE.push' (o := tupO #[v1, v2] 0) z2.sub
  have hT : IsTup (s2'.heap.push (tupO #[v1, v2] 0)) s2'.heap.objs.size #[v1, v2] := ⟨_, Heap.get?_push_size _ rfl, rfl, 0, rfl⟩
  show wpAny _ _ (unpackItems _ (#[v1, v2] : Array Value).size none) _ _ _
  refine unpackItems_tuple hR.hand hT fun h' he => ?_
  have hk : ∀ b o, (s2'.heap.push (tupO #[v1, v2] 0)).get? b = some o → h'.get? b = some o := fun b o e => he b o (Nat.ne_of_lt (Heap.lt_size e)) e
  have z4 := ExtE.grow (s := { s2' with heap := s2'.heap.push (tupO #[v1, v2] 0) }) (tk := s2'.toks) z3.sub hk
  have zz := (z2.trans z3).trans z4
  show wpAny _ _ (assignInOrder [bindName env x2, bindName env x1] [v2, v1]) _ _ _
  refine assignInOrder_cons (wpAny_bindName (set_ok hE (F1.ext zz) s2 rv2 fun s3 ow3 F3 z5 => assignInOrder_cons (wpAny_bindName ?_)))
  have X := (z1.toS (env := env) (ow := ow)).trans (zz.toS.trans z5)
  have nz := n.ext F1.tab zz
  have hmT : ¬ Mt env ow a := c2
  have hmT3 : ¬ Mt env ow3 a := fun q => by
    rcases z5.mt a q with q | q | q
    · exact hmT q
    · have := nz.some; rw [q] at this; cases this
    · exact F.tab.np h0 q
  have hget : s3.heap.get? a = h'.get? a := by
    obtain ⟨o, ho⟩ := Option.isSome_iff_exists.mp nz.some
    rw [z5.keep a o hmT (F.tab.np h0) ho]; exact ho.symm
  have n3 : NewAt s s3 G2 d1 v1 a := ⟨nz.top.same fun b e => by rw [n.ref] at e; cases e; exact hget, n.ref, n.no, nz.g, n.kind⟩
  refine own_ok hE F3 s1 n3 X hmT3 c1 fun s4 ow4 F4 z6 => assignInOrder_nil ⟨G2, ow4, z6, ?_, trivial⟩
  rw [own_set_comm r ne]; exact F4
theorem SndS.ownR {x1 x2 : Str} {p1 p2 : Pos} {i1 i2 : Nat} {k k' : Nat} {tpos pos vpos : Pos} {e1 e2 : Expr} {y1 y2 : X} (h1 : Snd U l C Z e1 y1) (h2 : SndN U l C Z e2 y2) (s1 : Storable Z i1 x1) (s2 : Storable Z i2 x2) (ne : i1 ≠ i2) (n1 : notStar e1 = true) (n2 : notStar e2 = true)
    (hs : ∀ env, swapsWithSole [.Tuple [.Name x1 p1, .Name x2 p2] k tpos] (.Tuple [e1, e2] k' vpos) pos.line env = pure false) (hw : ∀ env, EnvOk Z env → swappedStores [.Tuple [.Name x1 p1, .Name x2 p2] k tpos] (.Tuple [e1, e2] k' vpos) env = pure (some [x1, x2])) :
    SndS U l C Z (.Assign [.Tuple [.Name x1 p1, .Name x2 p2] k tpos] (.Tuple [e1, e2] k' vpos) pos) (.ownR i1 i2 y1 y2) := by
  intro A env s h₀ G r ow q r' hE hR hB F e
  obtain ⟨d1, q1, k_⟩ := bsome e
  obtain ⟨d2, q2, e⟩ := bsome k_
  cases e
  refine Assign_Tuple_swapped (names := [x1, x2]) (pair_ok n1 n2 ((h1 A env s G r d1 hE hR (F.base hB) F.rel q1).use fun v1 s1' G1 z1 rv1 => ?_)) (hs env) (hw env hE)
  have F1 := F.ext z1
  refine wpAny_mono (h2 A env s1' G1 r d2 hE hR (F1.base hB) F1.rel q2) (fun v2 s2' h_ => ?_) fun _ _ f => f.elim
  refine bC fun z_ => ?_
  (obtain ⟨G2, a, z2, rt, hv, h0, hg, hk⟩ := h_) <;> refine z_ ?_ <;> clear z_
  have n : NewAt s1' s2' G2 d2 v2 a := ⟨rt, hv, h0, hg, hk⟩
  obtain ⟨c1, c2⟩ := F1.notOwn h0
  have z3 := ExtE.push' (o := tupO #[v1, v2] 0) z2.sub
  have hT : IsTup (s2'.heap.push (tupO #[v1, v2] 0)) s2'.heap.objs.size #[v1, v2] := ⟨_, Heap.get?_push_size _ rfl, rfl, 0, rfl⟩
  show wpAny _ _ (unpackItems _ (#[v1, v2] : Array Value).size none) _ _ _
  refine unpackItems_tuple hR.hand hT fun h' he => ?_
  have hk : ∀ b o, (s2'.heap.push (tupO #[v1, v2] 0)).get? b = some o → h'.get? b = some o := fun b o e => he b o (Nat.ne_of_lt (Heap.lt_size e)) e
  have z4 := ExtE.grow (s := { s2' with heap := s2'.heap.push (tupO #[v1, v2] 0) }) (tk := s2'.toks) z3.sub hk
  have zz := z3.trans z4
  show wpAny _ _ (assignInOrder [bindName env x2, bindName env x1] [v2, v1]) _ _ _
  have nz := n.ext (F1.ext z2).tab zz
  refine assignInOrder_cons (wpAny_bindName (own_ok hE ((F1.ext z2).ext zz) s2 nz (z2.trans zz).toS c2 c1 fun s3 ow3 F3 z5 => assignInOrder_cons (wpAny_bindName ?_)))
  refine set_ok hE F3 s1 (rv1.mono (z2.le.trans zz.le)) fun s4 ow4 F4 z6 => assignInOrder_nil ⟨G2, ow4, (z1.toS.trans z5).trans z6, ?_, trivial⟩
  rw [← own_set_comm r (Ne.symm ne)]; exact F4
theorem SndS.ifs {test : Expr} {a b : List Stmt} {pos : Pos} {c : B} {x y : List S} (h : SndB U l C Z test c) (h1 : SndSs U l C Z a x) (h2 : SndSs U l C Z b y) : SndS U l C Z (.If test a b pos) (.ifs c x y) := by
  intro A env s h₀ G r ow q r' hE hR hB F e
  obtain ⟨t, e1, e2⟩ := bsome e
  refine wpAny_If ((h A env s G r t hE hR (F.base hB) F.rel e1).use fun s' G' x1 => ?_)
  have F1 := F.ext x1
  cases t with
  | true =>
    rw [if_pos rfl] at e2; rw [if_pos rfl]
    exact wpAny_mono (h1 A env s' h₀ G' r ow q r' hE hR hB F1 e2) (fun fl s'' p => p.trans x1.toS) fun _ _ f => f
  | false =>
    rw [if_neg (by decide)] at e2; rw [if_neg (by decide)]
    exact wpAny_mono (h2 A env s' h₀ G' r ow q r' hE hR hB F1 e2) (fun fl s'' p => p.trans x1.toS) fun _ _ f => f
theorem SndS.ret {value : Expr} {pos : Pos} {y : X} (h : Snd U l C Z value y) : SndS U l C Z (.Return (some value) pos) (.ret y) := by
  intro A env s h₀ G r ow q r' hE hR hB F e
  obtain ⟨d, e1, e2⟩ := bsome e
  cases e2
  refine bC fun z_ => ?_
  (obtain ⟨G1, F1, x1⟩ := F.freeze) <;> refine z_ ?_ <;> clear z_
  refine wpAny_Return_some ((h A env s G1 _ d hE hR (F.base hB) F1.rel e1).use fun v s' G' x2 r2 => ?_)
  exact ⟨G', _, x1.trans x2.toS, F1.ext x2, r2⟩
theorem SndS.assert {test : Expr} {pos : Pos} {c : B} (h : SndB U l C Z test c) : SndS U l C Z (.Assert test none pos) (.assert c) := by
  intro A env s h₀ G r ow q r' hE hR hB F e
  obtain ⟨t, e1, e2⟩ := bsome e
  refine wpAny_Assert hR.hand ((h A env s G r t hE hR (F.base hB) F.rel e1).use fun s' G' x1 => ?_)
  cases t with
  | true =>
    rw [if_pos rfl] at e2; rw [if_pos rfl]
    cases e2
    exact ⟨G', ow, x1.toS, F.ext x1, trivial⟩
  | false => simp at e2
theorem augD_ok {prog : Program} {w : World} {A : Around} {s : Shared} {G : PH} {op : BO} {a b d : D} {va vb : Value} {Q : Value → Shared → Prop} {E : Value → Shared → Prop} (ra : Rep G a va) (rb : Rep G b vb) (e : augD op a b = some d) (k : ∀ v tk, Rep G d v → Q v { s with toks := tk }) :
    wpAny (model prog w) A (inplaceOp op.op va vb) Q E s := by
  refine bC fun z_ => ?_
  (obtain ⟨f, hf, e⟩ := bsome e; obtain ⟨x, hx, e⟩ := bsome e; obtain ⟨y, hy, e⟩ := bsome e; rw [asI_inv hx] at ra; rw [asI_inv hy] at rb; obtain ⟨t, rfl⟩ := Rep.int_iff ra; obtain ⟨u, rfl⟩ := Rep.int_iff rb) <;> refine z_ ?_ <;> clear z_
  cases e
  cases op with
  | add => cases hf; exact iadd_int (k _ _ ⟨_, rfl⟩)
  | sub => cases hf; exact isub_int (k _ _ ⟨_, rfl⟩)
  | _ => exact nope hf
theorem load_ok {prog : Program} {w : World} {A : Around} {env : Env} {s : Shared} {x : Str} {v : Value} {Q : Value → Shared → Prop} {E : Value → Shared → Prop} (hk : env.scope.kind = .function) (V : VarAt env s.heap x v) (hn : okName x = true) (h : Q v s) :
    wpAny (model prog w) A (loadName env x) Q E s := by
  unfold okName at hn
  rw [Bool.and_eq_true, Bool.not_eq_true', Bool.not_eq_true'] at hn
  cases V with
  | loc m a b c => exact wpAny_loadName_local hk a b c h
  | cell c a b d => exact wpAny_loadName_cell hk a b d h
  | free c a b d => exact wpAny_loadName_free hk a b d h hn.2
theorem SndS.aug {x : Str} {px pos : Pos} {o : Operator} {op : BO} {value : Expr} {i : Nat} {y : X} (h : Snd U l C Z value y) (hs : Storable Z i x) (ho : o = op.op) (hn : okName x = true) : SndS U l C Z (.AugAssign (.Name x px) o value pos) (.aug i op y) := by
  intro A env s h₀ G r ow q r' hE hR hB F e
  subst ho
  obtain ⟨a, e0, k_⟩ := bsome e
  obtain ⟨b, e1, k_⟩ := bsome k_
  obtain ⟨d, e2, e3⟩ := bsome k_
  cases e3
  have hd := get_inv e0
  · refine bC fun z_ => ?_
    (obtain ⟨z, v, hz, hV, _, hr⟩ := F.rel.var i false _ hd) <;> refine z_ ?_ <;> clear z_
    rw [hs.1] at hz; cases hz
    refine wpAny_AugAssign_Name (load_ok hE.kind hV hn ((h A env s G r b hE hR (F.base hB) F.rel e1).use fun v2 s' G' x1 r1 => ?_))
    refine augD_ok ((hr rfl).mono x1.le) r1 e2 fun v3 tk r3 => ?_
    have x2 := x1.trans (ExtE.toks (tk := tk) x1.sub)
    exact set_ok hE (F.ext x2) hs r3 fun s'' ow' F' x3 => ⟨G', ow', x2.toS.trans x3, F', trivial⟩
end
end Mine
end

/- part EH -/
section
open PySem PySem.W PyProof.Rows PySem.Calls PySem.Spec PyProof.V PySem.Builtin PySem.Builtin.Str
set_option maxRecDepth 10000
namespace Mine
theorem RepL.set {G : PH} {d : D} {v : Value} (r : Rep G d v) : ∀ {l : List D} {vs : List Value} (k : Nat), RepL G l vs → RepL G (l.set k d) (vs.set k v)
  | [], _, k, h => by rw [h.nil_iff]; simpa using RepL.nil
  | _ :: _, _, 0, h => by
    refine bC fun z_ => ?_
    (obtain ⟨u, q, rfl, r1, r2⟩ := h.cons_iff) <;> refine z_ ?_ <;> clear z_
    simpa using RepL.cons r r2
  | _ :: _, _, k + 1, h => by
    refine bC fun z_ => ?_
    (obtain ⟨u, q, rfl, r1, r2⟩ := h.cons_iff) <;> refine z_ ?_ <;> clear z_
    simpa using RepL.cons r1 (RepL.set r k r2)
theorem RepM.stored {G : PH} {d : D} {v : Value} {k : Int} (r : Rep G d v) : ∀ {m : List (Int × D)} {kvs : List (Int × Value)}, RepM G m kvs → (kvs.map (·.1)).Nodup → RepM G (setM m k d) (PySem.stored kvs k v)
  | [], _, h, _ => by
    have := h.nil_iff; subst this
    simpa [Mine.setM, PySem.stored] using RepM.cons r RepM.nil
  | (k', d') :: m, _, h, nd => by
    refine bC fun z_ => ?_
    (obtain ⟨u, q, rfl, r1, r2⟩ := h.cons_iff) <;> refine z_ ?_ <;> clear z_
    rw [List.map_cons, List.nodup_cons] at nd
    by_cases hk : k' = k
    · subst hk
      have hno : ∀ p ∈ q, p.1 ≠ k' := fun p hp e => nd.1 (by rw [← e]; exact List.mem_map.mpr ⟨p, hp, rfl⟩)
      have hmap : q.map (fun kv => if kv.1 = k' then (kv.1, v) else kv) = q := by
        conv => rhs; rw [← List.map_id q]
        exact List.map_congr_left fun p hp => by simp [hno p hp]
      have e1 : PySem.stored ((k', u) :: q) k' v = (k', v) :: q := by
        simp only [PySem.stored, List.any_cons, decide_true, Bool.true_or, if_true, List.map_cons, hmap]
      have e2 : setM ((k', d') :: m) k' d = (k', d) :: m := by simp [setM]
      rw [e1, e2]
      exact RepM.cons r r2
    · have e1 : PySem.stored ((k', u) :: q) k v = (k', u) :: PySem.stored q k v := by
        simp only [PySem.stored, List.any_cons, hk, decide_false, Bool.false_or, List.map_cons, if_false]
        split
        · rfl
        · rfl
      have e2 : setM ((k', d') :: m) k d = (k', d') :: setM m k d := by simp [setM, hk]
      rw [e1, e2]
      exact RepM.cons r1 (RepM.stored r r2 nd.2)
section
variable {U : U0} {l : Nat} {C : Cx} {Z : Zz}
theorem FR.owned {env : Env} {r : Rho} {G : PH} {h₀ h : Heap} {ow : Nat → Option Addr} (F : FR Z env r G h₀ h ow) {i : Nat} {d : D} (e : r i = some (true, d)) {x : Str} (hx : Z.tbl[i]? = some x) : ∃ a, ow i = some a ∧ VarAt env h x (.ref a) ∧ RepTop h G d (.ref a) := by
  refine bC fun z_ => ?_
  (obtain ⟨m, cm, hn, hc, hv⟩ := F.vars) <;> refine z_ ?_ <;> clear z_
  refine bC fun z_ => ?_
  (obtain ⟨y, v, h1, h2, h3, h4, h5⟩ := hv i true d e) <;> refine z_ ?_ <;> clear z_
  rw [hx] at h1; cases h1
  refine bC fun z_ => ?_
  (obtain ⟨a, rfl, ha⟩ := h5 rfl) <;> refine z_ ?_ <;> clear z_
  refine ⟨a, ha, ?_, h3⟩
  rcases h2 with ⟨k, q⟩ | ⟨k, c, q1, q2⟩
  · exact .loc m k hn q
  · exact .cell c k q1 (q2 ▸ hc _ _ q1)
/- the end of a change to an object of the frame's own -/
theorem turn_end {env : Env} {r : Rho} {G : PH} {h₀ : Heap} {ow : Nat → Option Addr} {s s1 : Shared} {G1 : PH} {i : Nat} {a : Addr} {d d' : D} {h' : Heap} {tk : Nat} (F : FR Z env r G1 h₀ s1.heap ow) (X : ExtS env ow ow s s1 G G1) (hi : r i = some (true, d)) (ha : ow i = some a) (hs : Heap.SameBut a s1.heap h') (rt : RepTop h' G1 d' (.ref a)) (hk : d'.isObj = true) :
    Post Z env h₀ s G ow (r.own i d') .next .next { s1 with heap := h', toks := tk } := by
  have he : (h'.get? a).isSome = true := by
    cases d' with
    | list l => obtain ⟨a', vs, n, e, g, q⟩ := rt; cases e; rw [g]; rfl
    | dict l => obtain ⟨a', o, kvs, e, g, q⟩ := rt; cases e; rw [g]; rfl
    | _ => simp [D.isObj] at hk
  exact ⟨G1, ow, X.trans (ExtS.turn (s' := { s1 with heap := h', toks := tk }) ha hs rfl rfl), F.turn hi ha hs rt he, trivial⟩
theorem SndS.append {x : Str} {p ap cp pos : Pos} {e : Expr} {i : Nat} {y : X} (pl : Env → Sem Bool) (h : Snd U l C Z e y) (hx : Z.tbl[i]? = some x) (hn : okName x = true) (hp : notStar e = true)
    (he : ∀ env, eval (.Call (.Attribute (.Name x p) (Str.ofString "append") ap) [e] [] cp) env = (do
      let ov ← eval (.Name x p) env
      standAt ap.atName
      let (f, first) ← holding [ov] (getMethod ov (Str.ofString "append") (pl env))
      callWith cp f first (backTo cp (starEach [e] env)) []))
    (hi : ∀ env, EnvOk Z env → interactive env = false) (hs : ∀ env, swapsWith (.Call (.Attribute (.Name x p) (Str.ofString "append") ap) [e] [] cp) none pos.line env = pure false) :
    SndS U l C Z (.Expr (.Call (.Attribute (.Name x p) (Str.ofString "append") ap) [e] [] cp) pos) (.append i y) := by
  intro A env s h₀ G r ow q r' hE hR hB F eq
  obtain ⟨d, e1, eq⟩ := bsome eq
  obtain ⟨od, ho, eq⟩ := bsome eq
  obtain ⟨l1, hl1, eq⟩ := bsome eq
  have hri := owned_inv ho
  rw [asL_inv hl1] at hri
  · obtain ⟨hl, eq⟩ := isome eq
    cases eq
    refine bC fun z_ => ?_
    (obtain ⟨a, ha, hV, rt⟩ := F.owned hri hx) <;> refine z_ ?_ <;> clear z_
    refine bC fun z_ => ?_
    (obtain ⟨a', vs, n, ee, g, rl⟩ := rt) <;> refine z_ ?_ <;> clear z_
    cases ee
    refine wpAny_Expr ?_ (hi env hE) (hs env)
    refine MethodCall_ (pl := pl env) (var_at hE.kind hV hn ?_) (he env)
    refine getMethod_builtin (T := "list") ⟨_, g, rfl⟩ PySem.F.plainAttrs_list PySem.F.slot_list_append PySem.F.type_list_append (fun b eb => by cases eb; exact ⟨_, g, rfl⟩) ?_
    refine callWith_builtin (plain_any (one_plain hp)) (evalArgs_all (one_plain hp) (by simp) (one_arg h hp hE hR (F.base hB) F.rel e1 fun v s1 G1 x1 r1 => ?_))
    have F1 := F.ext x1
    have g1 := x1.keep.kp _ _ (lst_np F.tab g) g
    have hb : big = 1000000 := rfl
    have hsl := sizeLine_eq
    have hlen := rl.length; rw [Array.length_toList] at hlen
    refine append_at g1 (fun h' hs' ho' => ?_) (by omega)
    refine turn_end (tk := s1.toks) F1 x1.toS hri ha hs' ⟨_, _, _, rfl, ho', ?_⟩ rfl
    rw [Array.toList_push]
    exact (rl.mono x1.le).append (RepL.cons r1 RepL.nil)
theorem SndS.setItem {x : Str} {p sp pos : Pos} {ie value : Expr} {i : Nat} {yi y : X} (h : Snd U l C Z value y) (h2 : Snd U l C Z ie yi) (hx : Z.tbl[i]? = some x) (hn : okName x = true)
    (hsw : ∀ env, swapsWith value (some (.Subscript (.Name x p) ie sp)) pos.line env = pure false) : SndS U l C Z (.Assign [.Subscript (.Name x p) ie sp] value pos) (.setItem i yi y) := by
  intro A env s h₀ G r ow q r' hE hR hB F eq
  obtain ⟨d, e1, k_⟩ := bsome eq
  obtain ⟨dk, e2, eq⟩ := bsome k_
  obtain ⟨od, ho, eq⟩ := bsome eq
  obtain ⟨m, hm1, eq⟩ := bsome eq
  obtain ⟨k, hk1, eq⟩ := bsome eq
  have hri := owned_inv ho
  rw [asM_inv hm1] at hri
  have hk1 := asI_inv hk1; subst hk1
  · obtain ⟨hl, eq⟩ := isome eq
    cases eq
    refine wpAny_Assign_Subscript ((h A env s G r d hE hR (F.base hB) F.rel e1).use fun v s1 G1 x1 r1 => ?_) (hsw env)
    have F1 := F.ext x1
    refine bC fun z_ => ?_
    (obtain ⟨a, ha, hV, rt⟩ := F1.owned hri hx) <;> refine z_ ?_ <;> clear z_
    refine var_at (U := U) hE.kind hV hn ?_
    refine (h2 A env s1 G1 r _ hE hR (F1.base hB) F1.rel e2).use fun v2 s2 G2 x2 r2 => ?_
    have F2 := F1.ext x2
    have rt2 := rt.mono F1.tab x2.keep x2.le
    refine bC fun z_ => ?_
    (obtain ⟨a', o, kvs, ee, g, io, z, rm⟩ := rt2) <;> refine z_ ?_ <;> clear z_
    cases ee
    simp only [Rep] at r2; obtain ⟨t, rfl⟩ := r2
    have hb : big = 1000000 := rfl
    have hsl := sizeLine_eq
    have hlen := rm.length
    refine wpAny_setItem_pairs (knd := intKind U.prog U.w) (beq_self_eq_true _) (io.at g) (fun h' hm hs' => ?_) (by omega)
    refine bC fun z_ => ?_
    (obtain ⟨o', ho', hd'⟩ := Heap.dictOf_iff.mp hm) <;> refine z_ ?_ <;> clear z_
    have nd : (kvs.map (·.1)).Nodup := let ⟨_, _, _, _, _, n⟩ := io; n
    exact turn_end F2 (x1.trans x2).toS hri ha hs' ⟨_, o', _, rfl, ho', .of hd', z, RepM.stored (r1.mono x2.le) rm nd⟩ rfl
theorem getItem_dict_ok {prog : Program} {w : World} {A : Around} {s : Shared} {G : PH} {m : List (Int × D)} {a : Addr} {k : Int} {t : PySem.Tok} {p : Int × D} {Q : Value → Shared → Prop} {E : Value → Shared → Prop} (rt : RepTop s.heap G (.dict m) (.ref a)) (e : m.find? (fun p => decide (p.1 = k)) = some p)
    (kk : ∀ v tk, Rep G p.2 v → Q v { s with toks := tk }) : wpAny (model prog w) A (getItem (.ref a) (.int k t)) Q E s := by
  refine bC fun z_ => ?_
  (obtain ⟨a', o, kvs, ee, g, i, z, r⟩ := rt) <;> refine z_ ?_ <;> clear z_
  cases ee
  refine bC fun z_ => ?_
  (obtain ⟨v, hv, rv, hk⟩ := (RepM.find r).1 p e) <;> refine z_ ?_ <;> clear z_
  have hm := (i.at (prog := prog) (w := w) g).mapOf
  refine wpAny_getItem_of (knd := intKind prog w) (beq_self_eq_true _) hm (v := v) ?_ (kk v _ rv)
  unfold valueAt; rw [hv]; rfl
theorem SndS.augSub {x : Str} {p sp pos : Pos} {o : Operator} {op : BO} {ie value : Expr} {i : Nat} {yi y : X} (h : Snd U l C Z value y) (h2 : Snd U l C Z ie yi) (hx : Z.tbl[i]? = some x) (hn : okName x = true) (ho : o = op.op)
    (hi : ∀ ov iv new, augStore ie ov iv new = (do holding [new, ov, iv] (PySem.setItem ov iv new); release [new, ov, iv] []; pure .next)) : SndS U l C Z (.AugAssign (.Subscript (.Name x p) ie sp) o value pos) (.augSub i yi op y) := by
  intro A env s h₀ G r ow q r' hE hR hB F eq
  subst ho
  obtain ⟨od, ho, q1⟩ := bsome eq
  obtain ⟨dk, e2, q2⟩ := bsome q1
  obtain ⟨k, hk1, q3⟩ := bsome q2
  obtain ⟨dq, eA, q4⟩ := bsome q3
  clear eq q1 q2 q3
  have hri := owned_inv ho
  have hk1 := asI_inv hk1; subst hk1
  cases q4
  cases od with
  | list l1 =>
    refine bC fun z_ => ?_
    (obtain ⟨⟨hlb, hk⟩, eA⟩ := isome (show (if l1.length ≤ big ∧ 0 ≤ k then l1[k.toNat]?.bind fun a => (ev C r y).bind fun e => (augD op a e).bind fun d => some (.list (l1.set k.toNat d)) else .none) = some dq from eA); obtain ⟨da, ea, k_⟩ := bsome eA; obtain ⟨db, eb, k_⟩ := bsome k_; obtain ⟨dd, ed, k_⟩ := bsome k_; cases k_) <;> refine z_ ?_ <;> clear z_
    refine bC fun z_ => ?_
    (obtain ⟨a, ha, hV, rt⟩ := F.owned hri hx) <;> refine z_ ?_ <;> clear z_
    refine wpAny_AugAssign_SubscriptAny (var_at (U := U) hE.kind hV hn ((h2 A env s G r _ hE hR (F.base hB) F.rel e2).use fun v2 s1 G1 x1 r2 => ?_)) hi
    simp only [Rep] at r2; obtain ⟨t, rfl⟩ := r2
    have rt1 := rt.mono F.tab x1.keep x1.le
    refine bC fun z_ => ?_
    (obtain ⟨a', vs, n, ee, g, rl⟩ := rt1) <;> refine z_ ?_ <;> clear z_
    cases ee
    refine bC fun z_ => ?_
    (obtain ⟨va, hva, rva⟩ := rl.get ea) <;> refine z_ ?_ <;> clear z_
    have hb : big = 1000000 := rfl
    have hsl := sizeLine_eq
    have hlen := rl.length; rw [Array.length_toList] at hlen
    rw [Array.getElem?_toList] at hva
    have hlt : k.toNat < vs.size := by
      have := (List.getElem?_eq_some_iff.mp ea).1; omega
    refine wpAny_getItem_list (x := va) ⟨_, g, rfl, n, rfl⟩ hk (by omega) hva ?_
    have F1 := F.ext x1
    refine (h A env s1 G1 r _ hE hR (F1.base hB) F1.rel eb).use fun v3 s2 G2 x2 r3 => ?_
    refine augD_ok (rva.mono x2.le) r3 ed fun v4 tk r4 => ?_
    have x3 := x2.trans (ExtE.toks (tk := tk) x2.sub)
    have F2 := F1.ext x3
    have g2 := x2.keep.kp _ _ (lst_np F1.tab g) g
    refine ki_setAt (n := n) g2 hk (by omega) (by omega) ?_
    have up := PySem.IsL.update (n := n) g2 (·.setIfInBounds k.toNat v4)
    refine turn_end (tk := tk) F2 (x1.trans x3).toS hri ha (Heap.SameBut.update ..) ⟨_, _, _, rfl, up, ?_⟩ rfl
    rw [show (vs.setIfInBounds k.toNat v4).toList = vs.toList.set k.toNat v4 from by simp]
    exact RepL.set r4 _ (rl.mono x2.le)
  | dict m =>
    refine bC fun z_ => ?_
    (obtain ⟨hlb, eA⟩ := isome (show (if m.length ≤ big then ((m.find? fun p => decide (p.1 = k)).map (·.2)).bind fun a => (ev C r y).bind fun e => (augD op a e).bind fun d => some (.dict (setM m k d)) else .none) = some dq from eA); obtain ⟨da, ea, k1_⟩ := bsome eA; obtain ⟨db, eb, k2_⟩ := bsome k1_; obtain ⟨dd, ed, k3_⟩ := bsome k2_; obtain ⟨p, ep, rfl⟩ := Option.map_eq_some_iff.mp ea; cases k3_) <;> refine z_ ?_ <;> clear z_
    refine bC fun z_ => ?_
    (obtain ⟨a, ha, hV, rt⟩ := F.owned hri hx) <;> refine z_ ?_ <;> clear z_
    refine wpAny_AugAssign_SubscriptAny (var_at (U := U) hE.kind hV hn ((h2 A env s G r _ hE hR (F.base hB) F.rel e2).use fun v2 s1 G1 x1 r2 => ?_)) hi
    simp only [Rep] at r2; obtain ⟨t, rfl⟩ := r2
    have rt1 := rt.mono F.tab x1.keep x1.le
    refine getItem_dict_ok rt1 ep fun va tk rva => ?_
    have x1' := x1.trans (ExtE.toks (tk := tk) x1.sub)
    have F1 := F.ext x1'
    refine (h A env _ G1 r _ hE hR (F1.base hB) F1.rel eb).use fun v3 s2 G2 x2 r3 => ?_
    refine augD_ok (rva.mono x2.le) r3 ed fun v4 tk4 r4 => ?_
    have x3 := x2.trans (ExtE.toks (tk := tk4) x2.sub)
    have F2 := F1.ext x3
    have rt2 := rt1.mono (h' := s2.heap) F1.tab x2.keep x2.le
    refine bC fun z_ => ?_
    (obtain ⟨a', o, kvs, ee, g, io, z, rm⟩ := rt2) <;> refine z_ ?_ <;> clear z_
    cases ee
    have hb : big = 1000000 := rfl
    have hsl := sizeLine_eq
    have hlen := rm.length
    refine wpAny_setItem_pairs (knd := intKind U.prog U.w) (beq_self_eq_true _) (io.at g) (fun h' hm hs' => ?_) (by omega)
    refine bC fun z_ => ?_
    (obtain ⟨o', ho', hd'⟩ := Heap.dictOf_iff.mp hm) <;> refine z_ ?_ <;> clear z_
    have nd : (kvs.map (·.1)).Nodup := let ⟨_, _, _, _, _, n⟩ := io; n
    exact turn_end F2 (x1'.trans x3).toS hri ha hs' ⟨_, o', _, rfl, ho', .of hd', z, RepM.stored r4 rm nd⟩ rfl
  | _ => exact nope eA
theorem delete_sub {env : Env} {o ie : Expr} {pos : Pos} {A : Around} {s : Shared} {M : Model} {Q : Unit → Shared → Prop} {E : Value → Shared → Prop}
    (h : wpAny M A (eval o env) (fun ov s1 => wpAny M A (eval ie env) (fun iv s2 => wpAny M A (delItem ov iv) Q E s2) E s1) E s) : wpAny M A (delete (.Subscript o ie pos) env) Q E s := by
  show wpAny M A (do let ov ← eval o env; let iv ← holding [ov] (eval ie env); standAt pos; holding [ov, iv] (delItem ov iv); release [ov, iv] []) Q E s
  refine wpAny_bind (wpAny_mono h (fun ov s1 h1 => wpAny_bind (wpAny_holding (wpAny_mono h1 (fun iv s2 h2 => wpAny_bind (wpAny_standAt (wpAny_bind (wpAny_holding (wpAny_mono h2 (fun _ s3 h3 => wpAny_release h3) fun _ _ f => f))))) fun _ _ f => f))) fun _ _ f => f)
theorem SndS.del {x : Str} {p dp sp pos : Pos} {ie : Expr} {i : Nat} {first : Bool} (hv : ∀ env A s, ∃ u tk, ∀ (Q : Value → Shared → Prop) (E : Value → Shared → Prop), Q (.int (if first then 0 else -1) u) { s with toks := tk } → wpAny (model U.prog U.w) A (eval ie env) Q E s) (hx : Z.tbl[i]? = some x) (hn : okName x = true) :
    SndS U l C Z (.Delete [.Subscript (.Name x p) ie sp] pos) (if first then .delFirst i else .delLast i) := by
  intro A env s h₀ G r ow q r' hE hR hB F eq
  have key : ∀ (a : D) (lt l' : List D), r i = some (true, .list (a :: lt)) → (if first then lt else (a :: lt).dropLast) = l' → lt.length ≤ big → q = .next → r' = r.own i (.list l') →
      wpAny (model U.prog U.w) A (PySem.exec (.Delete [.Subscript (.Name x p) ie sp] pos) env) (Post Z env h₀ s G ow r' q) (fun _ _ => False) s := by
    intro a0 lt l' hri hl hb1 hq hr
    subst hq hr
    refine bC fun z_ => ?_
    (obtain ⟨a, ha, hV, rt⟩ := F.owned hri hx) <;> refine z_ ?_ <;> clear z_
    refine bC fun z_ => ?_
    (obtain ⟨a', vs, n, ee, g, rl⟩ := rt) <;> refine z_ ?_ <;> clear z_
    cases ee
    refine wpAny_Delete (wpAny_deleteEach_cons (delete_sub (var_at (U := U) hE.kind hV hn ?_)))
    refine bC fun z_ => ?_
    (obtain ⟨u, tk, hev⟩ := hv env A s) <;> refine z_ ?_ <;> clear z_
    refine hev _ _ ?_
    have hb : big = 1000000 := rfl
    have hsl := sizeLine_eq
    have hlen := rl.length; rw [Array.length_toList, List.length_cons] at hlen
    have z : ExtE s { s with toks := tk } G G := ExtE.toks F.gle
    have hidx : seqIndex? (if first then 0 else -1) vs.size = some (if first then 0 else lt.length) := by
      rw [hlen]
      unfold seqIndex?
      cases first with
      | true =>
        simp only [if_true]
        rw [if_neg (show ¬ ((0 : Int) < 0) by decide), if_pos (by rw [Bool.and_eq_true, decide_eq_true_eq, decide_eq_true_eq]; omega)]; rfl
      | false =>
        simp only [Bool.false_eq_true, if_false]
        rw [if_pos (show (-1 : Int) < 0 by decide), if_pos (by rw [Bool.and_eq_true, decide_eq_true_eq, decide_eq_true_eq]; omega)]
        congr 1; omega
    refine delItem_at (n := n) g ?_ hidx (fun h' hs' ho' => wpAny_deleteEach_nil ?_) (by omega)
    · cases first <;> decide
    refine turn_end (tk := tk) (F.ext z) z.toS hri ha hs' ⟨_, _, _, rfl, ho', ?_⟩ rfl
    subst hl
    refine bC fun z_ => ?_
    (obtain ⟨u0, q0, evs, r0, rr⟩ := rl.cons_iff) <;> refine z_ ?_ <;> clear z_
    rw [evs]
    cases first with
    | true => simpa using rr
    | false =>
      simp only [Bool.false_eq_true, if_false]
      have hq : q0.length = lt.length := rr.length
      have e1 : (u0 :: q0).eraseIdx lt.length = (u0 :: q0).take lt.length := by
        rw [List.eraseIdx_eq_take_drop_succ, List.drop_of_length_le (by simp; omega), List.append_nil]
      have e2 : (a0 :: lt).dropLast = (a0 :: lt).take lt.length := by rw [List.dropLast_eq_take]; simp
      rw [e1, e2]
      exact (RepL.cons r0 rr).take _
  have fin : ∀ {od dq : D} {l0 : List D}, r.owned i = some od → od.asL = some l0 → delAt (!first) l0 = some dq → (.next, r.own i dq) = (q, r') → wpAny (model U.prog U.w) A (PySem.exec (.Delete [.Subscript (.Name x p) ie sp] pos) env) (Post Z env h₀ s G ow r' q) (fun _ _ => False) s := by
    intro od dq l0 ho hl0 hq hr
    have hri := owned_inv ho
    rw [asL_inv hl0] at hri
    cases l0 with
    | nil => exact nope hq
    | cons a lt =>
      obtain ⟨hl, hq⟩ := isome (show (if lt.length ≤ big then some (D.list (if (!first) then (a :: lt).dropLast else lt)) else .none) = some dq from hq)
      cases hq
      exact key a lt _ hri (by cases first <;> rfl) hl (congrArg Prod.fst hr).symm (congrArg Prod.snd hr).symm
  cases first with
  | true =>
    obtain ⟨od, ho, eq⟩ := bsome eq
    obtain ⟨l0, hl0, eq⟩ := bsome eq
    obtain ⟨dq, hq, eq⟩ := bsome eq
    exact fin ho hl0 hq (Option.some.inj eq)
  | false =>
    obtain ⟨od, ho, eq⟩ := bsome eq
    obtain ⟨l0, hl0, eq⟩ := bsome eq
    obtain ⟨dq, hq, eq⟩ := bsome eq
    exact fin ho hl0 hq (Option.some.inj eq)
end
end Mine
end

/- part EI -/
section
open PySem PySem.W PyProof.Rows PySem.Calls PySem.Spec PyProof.V PySem.Builtin PySem.Builtin.Str
set_option maxRecDepth 10000
namespace Mine
noncomputable def ItemRep (G : PH) (h : Heap) (d : D) (v : Value) : Prop := Rep G d v ∨ ∃ T vals ls, d = .tup ls ∧ v = .ref T ∧ h.IsTuple T vals ∧ RepL G ls vals.toList
theorem ItemRep.mono {G G' : PH} {h : Heap} {d : D} {v : Value} (i : ItemRep G h d v) (le : G.le G') : ItemRep G' h d v := by
  rcases i with r | ⟨T, vals, ls, h1, h2, h3, h4⟩
  · exact .inl (r.mono le)
  · exact .inr ⟨T, vals, ls, h1, h2, h3, h4.mono le⟩
/- an iterator for a loop's target -/
noncomputable def ItK (prog : Program) (w : World) (A : Around) (target : Expr) (it : Value) (ds : List D) (s₀ s : Shared) (G : PH) : Prop :=
  ∃ (I : Addr) (fp wr : List Addr) (P Md : Nat → Value → Heap → Prop) (St : Nat → Heap → Prop), it = .ref I ∧ KTurns prog w A target I fp wr ds.length P Md St ∧ St 0 s.heap ∧ (∀ b ∈ fp, (s.heap.get? b).isSome = true) ∧
    (∀ b ∈ wr, s₀.heap.get? b = none ∧ G b = none) ∧ (∀ b ∈ fp, s₀.heap.get? b = none ∨ (∃ o, G b = some o)) ∧ (∀ (i : Nat) (v : Value) (h : Heap) (d : D), ds[i]? = some d → P i v h → ItemRep G h d v) ∧ (∀ i h, St i h → ∀ b ∈ wr, (h.get? b).isSome = true) ∧
    (∀ x p, target = .Name x p → ∀ (i : Nat) (v : Value) (h : Heap) (d : D), ds[i]? = some d → P i v h → Rep G d v)
theorem FR.but {Z : Zz} {env : Env} {r : Rho} {G : PH} {h₀ h h' : Heap} {ow : Nat → Option Addr} {wr : List Addr} (F : FR Z env r G h₀ h ow) (h1 : ∀ b ∈ wr, h₀.get? b = none) (h2 : ∀ b ∈ wr, G b = none) (h3 : ∀ b ∈ wr, ¬ Mt env ow b)
    (k : ∀ b o, b ∉ wr → h.get? b = some o → h'.get? b = some o) : FR Z env r G h₀ h' ow := by
  refine bC fun z_ => ?_
  (obtain ⟨m, cm, hn, hc, hv⟩ := F.vars) <;> refine z_ ?_ <;> clear z_
  have ne : ∀ b, Mt env ow b → b ∉ wr := fun b hb q => h3 b q hb
  have gle' : ∀ a o, G a = some o → h'.get? a = some o := fun a o e => k a o (fun q => by rw [h2 a q] at e; cases e) (F.gle a o e)
  refine ⟨F.keep₀.step fun b o e e' => k b o (fun q => by rw [h1 b q] at e; cases e) e', gle', F.fresh, F.gL, F.cel, F.apart, fun j a e => ?_, F.inj, m, cm, hn.at' fun o e => k _ o (ne _ (.inl rfl)) e, fun n c e => ?_, fun j b d e => ?_⟩
  · obtain ⟨g1, g2, g3, g4, g5, g6⟩ := F.own j a e
    obtain ⟨o, ho⟩ := Option.isSome_iff_exists.mp g5
    exact ⟨g1, g2, g3, g4, by rw [k a o (ne _ (.inr (.inr ⟨j, e⟩))) ho]; rfl, g6⟩
  · obtain ⟨o, ho, hd⟩ := hc n c e
    exact ⟨o, k c o (ne _ (.inr (.inl ⟨n, e⟩))) ho, hd⟩
  · obtain ⟨y, u, g1, g2, g3, g4, g5⟩ := hv j b d e
    refine ⟨y, u, g1, g2, ?_, g4, g5⟩
    cases b with
    | false => exact (g4 rfl).top gle'
    | true =>
      refine bC fun z_ => ?_
      (obtain ⟨a', rfl, g6⟩ := g5 rfl) <;> refine z_ ?_ <;> clear z_
      refine g3.same fun c e => ?_
      cases e
      refine bC fun z_ => ?_
      (obtain ⟨_, _, _, _, g7, _⟩ := F.own j _ g6) <;> refine z_ ?_ <;> clear z_
      obtain ⟨o, ho⟩ := Option.isSome_iff_exists.mp g7
      rw [k _ o (ne _ (.inr (.inr ⟨j, g6⟩))) ho, ho]
noncomputable def TgtOk (Z : Zz) (target : Expr) (ts : List Nat) : Prop := (∃ x p i, target = .Name x p ∧ ts = [i] ∧ Storable Z i x) ∨ (∃ es k p, target = .Tuple es k p ∧ NamesAre Z es ts ∧ ts.length ≠ 1)
section
variable {U : U0} {l : Nat} {C : Cx} {Z : Zz}
theorem item_assign {A : Around} {env : Env} {h₀ : Heap} {G : PH} {target : Expr} {ts : List Nat} {d : D} {v : Value} {r r' : Rho} {ow : Nat → Option Addr} {s : Shared} (hh : A.handled = none) (hE : EnvOk Z env) (ht : TgtOk Z target ts) (rv : ItemRep G s.heap d v) (hnt : ∀ x p, target = .Name x p → Rep G d v) (F : FR Z env r G h₀ s.heap ow)
    (e : r.put ts d = some r') {Q : Unit → Shared → Prop} {E : Value → Shared → Prop} (kk : ∀ s' ow', FR Z env r' G h₀ s'.heap ow' → ExtS env ow ow' s s' G G → Q () s') :
    wpAny (model U.prog U.w) A (PySem.assign target env v) Q E s := by
  rcases ht with ⟨x, p, i, rfl, rfl, hs⟩ | ⟨es, k, p, rfl, hn, hl⟩
  · simp only [Rho.put, Option.some.injEq] at e
    subst e
    exact wpAny_assign_Name (set_ok hE F hs (hnt x p rfl) kk)
  · rw [put_many hl] at e
    rcases rv with rv | ⟨T, vals, ls, rfl, rfl, hT, rl⟩
    · exact unpack_ok hh hE hn rv F e kk
    · obtain ⟨q1, q2⟩ := hn.each env
      replace e : r.setAll ts ls = some r' := e
      have h1 := setAll_len e
      have h2 := rl.length; rw [Array.length_toList] at h2
      have h3 := hn.length
      refine PySem.wpAny_assign_Tuple hh hT (by omega) q2 fun h' he => ?_
      have hk : ∀ b o, s.heap.get? b = some o → h'.get? b = some o := fun b o e => he b o (Nat.ne_of_lt (Heap.lt_size e)) e
      have x1 := ExtE.grow (tk := s.toks) F.gle hk
      exact stores_ok hE hn rl (F.ext x1) e fun s' ow' F' x' => kk s' ow' F' ((ExtS.grow (tk := s.toks) hk).trans x')
/- what a loop goes through -/
noncomputable def SndK (U : U0) (l : Nat) (C : Cx) (Z : Zz) (e target : Expr) (x : I) : Prop :=
  ∀ (A : Around) (env : Env) (s : Shared) (G : PH) (r : Rho) (ds : List D), EnvOk Z env → Room A l → U.Base s.heap → SRel Z env r G s.heap → evI C r x = some ds →
    wpAny (model U.prog U.w) A (eval e env) (fun xv s₁ => wpAny (model U.prog U.w) A (pyIter xv) (fun it s₂ => ∃ G₂, ExtE s s₂ G G₂ ∧ ItK U.prog U.w A target it ds s s₂ G₂) (fun _ _ => False) s₁) (fun _ _ => False) s
theorem forM_cons {f : D → Rho → Option (Fl × Rho)} {d : D} {ds : List D} {r r' : Rho} {q : Fl} (h : forM f (d :: ds) r = some (q, r')) : ∃ q1 r1, f d r = some (q1, r1) ∧ ((q1 = .next ∧ forM f ds r1 = some (q, r')) ∨ (∃ x, q1 = .ret x ∧ q = .ret x ∧ r' = r1)) := by
  have h := bsomeP h
  refine bC fun z_ => ?_
  (obtain ⟨q1, r1, h1, h2⟩ := h) <;> refine z_ ?_ <;> clear z_
  refine ⟨q1, r1, h1, ?_⟩
  cases q1 with
  | next => exact .inl ⟨rfl, h2⟩
  | ret x =>
    have h2 := Option.some.inj h2
    exact .inr ⟨x, rfl, (congrArg Prod.fst h2).symm, (congrArg Prod.snd h2).symm⟩
inductive FOI (Z : Zz) (env : Env) (h₀ : Heap) (ow : Nat → Option Addr) (s : Shared) (G G₂ : PH) (ds : List D) (F : List D → Rho → Option (Fl × Rho)) (St : Nat → Heap → Prop) (fp wr : List Addr) (q : Fl) (r' : Rho) (k : Nat) (s' : Shared) : Prop
  | mk (i : Nat) (ri : Rho) (Gi : PH) (owi : Nat → Option Addr) (h1 : i ≤ ds.length) (h2 : k = ds.length + 1 - i) (h3 : FR Z env ri Gi h₀ s'.heap owi) (h4 : ExtS env ow owi s s' G Gi) (h5 : G₂.le Gi) (h6 : St i s'.heap) (h7 : ∀ b ∈ fp, (s'.heap.get? b).isSome = true ∧ ¬ Mt env owi b) (h8 : ∀ b ∈ wr, Gi b = none) (h9 : F (ds.drop i) ri = some (q, r')) : FOI Z env h₀ ow s G G₂ ds F St fp wr q r' k s'
set_option maxHeartbeats 1000000 in
theorem for_ok {target : Expr} {body : List Stmt} {ts : List Nat} {Ss : List S} (ht : TgtOk Z target ts) (hb : SndSs U l C Z body Ss) {A : Around} {env : Env} {s s₂ : Shared} {h₀ : Heap} {G G₁ G₂ : PH} {r r' : Rho} {ow ow₁ : Nat → Option Addr} {it : Value} {ds : List D} {q : Fl}
    (hE : EnvOk Z env) (hR : Room A l) (hB : U.Base h₀) (F : FR Z env r G₁ h₀ s.heap ow₁) (X : ExtS env ow ow₁ s s G G₁) (x₂ : ExtE s s₂ G₁ G₂) (hI : ItK U.prog U.w A target it ds s s₂ G₂)
    (hq : forM (fun d r => do let r' ← r.put ts d; execs C r' Ss) ds r = some (q, r'))
    {R : Result → Shared → Prop} (hRR : ∀ fl s', Post Z env h₀ s G ow r' q fl s' → R (.ok fl) s') :
    codeAny (model U.prog U.w) A (.forLoop target it body [] env) R s₂ := by
  refine bC fun z_ => ?_
  (obtain ⟨I, fp, wr, P, Md, St, rfl, W, hst, hfp, hwr, hff, hP, hex, hnm⟩ := hI) <;> refine z_ ?_ <;> clear z_
  have F₂ := F.ext x₂
  have noMt : ∀ b ∈ fp, ¬ Mt env ow₁ b := fun b hb hm => by
    refine bC fun z_ => ?_
    (obtain ⟨m1, m2, m3⟩ := F.mtG hm) <;> refine z_ ?_ <;> clear z_
    rcases hff b hb with e | ⟨o, e⟩
    · rw [e] at m3; cases m3
    · obtain ⟨m4, _, _⟩ := F₂.mtG hm
      rw [m4] at e; cases e
  have hw0 : ∀ b ∈ wr, h₀.get? b = none := fun b hb => F.keep₀.dead (hwr b hb).1
  have nF : ∀ b ∈ fp, b ≠ tabP := fun b hb => by
    rcases hff b hb with e | ⟨o, e⟩
    · exact F.tab.np e
    · intro q; rw [q, F₂.gL.1] at e; cases e
  generalize hf : (fun (d : D) (r : Rho) => do let r' ← r.put ts d; execs C r' Ss) = f at hq
  refine codeAny_forLoop_any
    (FOI Z env h₀ ow s G G₂ ds (forM f) St fp wr q r') ?_ (ds.length + 1)
    ⟨0, r, G₂, ow₁, Nat.zero_le _, rfl, F₂, X.trans x₂.toS, PH.le.refl _, hst, fun b hb => ⟨hfp b hb, noMt b hb⟩, fun b hb => (hwr b hb).2, hq⟩
  intro k s' h1_
  refine bC fun z_ => ?_
  (obtain ⟨i, ri, Gi, owi, hi, rfl, Fi, Xi, lei, sti, fpi, gwi, hqi⟩ := h1_) <;> refine z_ ?_ <;> clear z_
  have wrM : ∀ b ∈ wr, ¬ Mt env owi b := fun b hb => (fpi b (W.sub b hb)).2
  by_cases hlt : i < ds.length
  · obtain ⟨d, hd⟩ : ∃ d, ds[i]? = some d := ⟨_, List.getElem?_eq_getElem hlt⟩
    have hdrop : ds.drop i = d :: ds.drop (i + 1) := by
      rw [List.drop_eq_getElem_cons hlt]; congr 1
      rw [List.getElem?_eq_getElem hlt] at hd; exact Option.some.inj hd
    rw [hdrop] at hqi
    refine bC fun z_ => ?_
    (obtain ⟨q1, r1, hq1, hq2⟩ := forM_cons hqi) <;> refine z_ ?_ <;> clear z_
    rw [← hf] at hq1
    obtain ⟨rp, hp, hx⟩ := bsome hq1
    refine W.item i _ _ _ hlt sti fun v h₃ tk₃ hMd hk₃ => ?_
    refine W.go i v _ _ _ hMd fun h₄ hPv st₄ hk₄ => ?_
    have k34 : ∀ b o, b ∉ wr → s'.heap.get? b = some o → h₄.get? b = some o := fun b o hb e => hk₄ b o hb (hk₃ b o hb e)
    have F4 : FR Z env ri Gi h₀ h₄ owi := Fi.but hw0 gwi wrM k34
    have X4 : ExtS env ow owi s { s' with heap := h₄, toks := tk₃ } G Gi := ⟨fun b o hb n e => k34 b o (fun q => by rw [(hwr b q).1] at e; cases e) (Xi.keep b o hb n e), Xi.le, Xi.old, Xi.mt, Xi.os, Xi.gens⟩
    have fp4 : ∀ b ∈ fp, (h₄.get? b).isSome = true := fun b hb => by
      by_cases q : b ∈ wr
      · exact hex _ _ st₄ b q
      · obtain ⟨o, ho⟩ := Option.isSome_iff_exists.mp (fpi b hb).1
        rw [k34 b o q ho]; rfl
    have ir : ItemRep Gi h₄ d v := (hP i v h₄ d hd hPv).mono lei
    refine item_assign (s := { s' with heap := h₄, toks := tk₃ }) hR.hand hE ht ir (fun x p ex => (hnm x p ex i v h₄ d hd hPv).mono lei) F4 hp fun s5 ow5 F5 X5 => ?_
    have m5 : ∀ b ∈ fp, ¬ Mt env ow5 b := fun b hb hm => by
      rcases X5.mt b hm with e | e | e
      · exact (fpi b hb).2 e
      · have := fp4 b hb; rw [show ({ s' with heap := h₄, toks := tk₃ } : Shared).heap.get? b = none from e] at this; cases this
      · exact nF b hb e
    have fp5 : ∀ b ∈ fp, (s5.heap.get? b).isSome = true := fun b hb => by
      obtain ⟨o, ho⟩ := Option.isSome_iff_exists.mp (fp4 b hb)
      rw [X5.keep b o (fpi b hb).2 (nF b hb) ho]; rfl
    have st5 : St (i + 1) s5.heap := W.frame _ _ _ st₄ fun b hb o e => X5.keep b o (fpi b hb).2 (nF b hb) e
    refine wpAny_mono (hb A env s5 h₀ Gi rp ow5 q1 r1 hE hR hB F5 hx) (fun fl s6 h_ => ?_) fun _ _ f => f.elim
    refine bC fun z_ => ?_
    (obtain ⟨G6, ow6, X6, F6, z6⟩ := h_) <;> refine z_ ?_ <;> clear z_
    have X16 := (X4.trans X5).trans X6
    rcases hq2 with ⟨rfl, hq2⟩ | ⟨x, rfl, rfl, rfl⟩
    · have hfl : fl = .next := by cases fl <;> first | rfl | exact z6.elim
      subst hfl
      refine ⟨ds.length + 1 - (i + 1), by omega, i + 1, r1, G6, ow6, hlt, rfl, F6, X16, lei.trans X6.le, W.frame _ _ _ st5 fun b hb o e => X6.keep b o (m5 b hb) (nF b hb) e, fun b hb => ⟨?_, fun hm => ?_⟩, fun b hb => ?_, hq2⟩
      · obtain ⟨o, ho⟩ := Option.isSome_iff_exists.mp (fp5 b hb)
        rw [X6.keep b o (m5 b hb) (nF b hb) ho]; rfl
      · rcases X6.mt b hm with e | e | e
        · exact m5 b hb e
        · have := fp5 b hb; rw [e] at this; cases this
        · exact nF b hb e
      · rw [X6.old b (nF b (W.sub b hb)) (fp5 b (W.sub b hb)) (m5 b (W.sub b hb))]; exact gwi b hb
    · cases fl <;> first | (exact z6.elim) | skip
      exact hRR _ _ ⟨G6, ow6, X16, F6, z6⟩
  · have hin : i = ds.length := by omega
    subst hin
    rw [List.drop_length] at hqi
    have hqi := Option.some.inj hqi; cases hqi
    refine W.done _ _ _ sti fun h₃ tk₃ hk₃ => ?_
    refine wpAny_pure (hRR _ _ ⟨Gi, owi, ⟨fun b o hb n e => hk₃ b o (fun q => by rw [(hwr b q).1] at e; cases e) (Xi.keep b o hb n e), Xi.le, Xi.old, Xi.mt, Xi.os, Xi.gens⟩, Fi.but hw0 gwi wrM hk₃, trivial⟩)
theorem SndS.fors {target iter : Expr} {body : List Stmt} {pos : Pos} {ts : List Nat} {x : I} {Ss : List S} (hi : SndK U l C Z iter target x) (ht : TgtOk Z target ts) (hb : SndSs U l C Z body Ss) (hs : ∀ env x, foldedSetIterable iter env x = pure x) :
    SndS U l C Z (.For target iter body [] pos) (.fors ts x Ss) := by
  intro A env s h₀ G r ow q r' hE hR hB F e
  have e := bsomeP e
  refine bC fun z_ => ?_
  (obtain ⟨ds, r1, e1, e2⟩ := e) <;> refine z_ ?_ <;> clear z_
  refine bC fun z_ => ?_
  (obtain ⟨G1, ow1, F1, x1, ea⟩ := evIF_ok F e1) <;> refine z_ ?_ <;> clear z_
  refine wpAny_For (wpAny_mono (hi A env s G1 r1 ds hE hR (F1.base hB) F1.rel ea) (fun xv s₁ h₁ => wpAny_mono h₁ (fun itv s₂ h_ => ?_) fun _ _ f => f.elim) fun _ _ f => f.elim) (hs env)
  refine bC fun z_ => ?_
  (obtain ⟨G₂, x₂, hI⟩ := h_) <;> refine z_ ?_ <;> clear z_
  exact for_ok ht hb hE hR hB F1 x1 x₂ hI e2 fun fl s' p => p
/- a walk is a loop's iterator -/
theorem ItW.toK {prog : Program} {w : World} {A : Around} {x : Str} {p : Pos} {it : Value} {ds : List D} {s₀ s : Shared} {G : PH} (h : ItW prog w A it ds s₀ s G) (hsub : ∀ a o, G a = some o → s.heap.get? a = some o) : ItK prog w A (.Name x p) it ds s₀ s G := by
  refine bC fun z_ => ?_
  (obtain ⟨I, fp, wr, P, St, rfl, W, hst, hfp, hwr, hfw, hP, hex⟩ := h) <;> refine z_ ?_ <;> clear z_
  refine ⟨I, fp, wr, _, _, St, rfl, KTurns.ofWalks W (fun i v s Q E st q => wpAny_pure q), hst, fun b hb => ?_, hwr, fun b hb => ?_, fun i v h d e pv => .inl (hP i v d e pv), hex, fun _ _ _ i v h d e pv => hP i v d e pv⟩
  · rcases hfw b hb with q | ⟨o, q⟩
    · exact hex _ _ hst b q
    · rw [hsub _ _ q]; rfl
  · rcases hfw b hb with q | q
    · exact .inl (hwr b q).1
    · exact .inr q
theorem SndK.name {e : Expr} {x : Str} {p : Pos} {y : I} (h : SndI U l C Z e y) : SndK U l C Z e (.Name x p) y := by
  intro A env s G r ds hE hR hB R q
  exact wpAny_mono (h A env s G r ds hE hR hB R q) (fun xv s1 h1 => wpAny_mono h1 (fun it s2 ⟨G2, x2, i⟩ => ⟨G2, x2, i.toK x2.sub⟩) fun _ _ f => f) fun _ _ f => f
end
end Mine
end

/- part EJ -/
section
open PySem PySem.W PyProof.Rows PySem.Calls PySem.Spec PyProof.V PySem.Builtin PySem.Builtin.Str
set_option maxRecDepth 10000
namespace Mine
theorem enumD_get : ∀ (n : Nat) (l : List D) (i : Nat) (d : D), (enumD n l)[i]? = some d → ∃ e, l[i]? = some e ∧ d = .tup [.int (n + i : Nat), e]
  | _, [], i, d, h => by simp [enumD] at h
  | n, a :: r, 0, d, h => by
    simp only [enumD, List.getElem?_cons_zero, Option.some.injEq] at h
    exact ⟨a, rfl, by rw [← h]; simp⟩
  | n, a :: r, i + 1, d, h => by
    simp only [enumD, List.getElem?_cons_succ] at h
    refine bC fun z_ => ?_
    (obtain ⟨e, h1, h2⟩ := enumD_get (n + 1) r i d h) <;> refine z_ ?_ <;> clear z_
    exact ⟨e, by simpa using h1, by rw [h2, show n + 1 + i = n + (i + 1) by omega]⟩
theorem enumD_len : ∀ (n : Nat) (l : List D), (enumD n l).length = l.length
  | _, [] => rfl
  | n, a :: r => by rw [enumD, List.length_cons, List.length_cons, enumD_len]
theorem zipD_get : ∀ (l m : List D) (i : Nat) (d : D), (zipD l m)[i]? = some d → ∃ a b, l[i]? = some a ∧ m[i]? = some b ∧ d = .tup [a, b]
  | [], _, i, d, h => by simp [zipD] at h
  | _ :: _, [], i, d, h => by simp [zipD] at h
  | a :: l, b :: m, 0, d, h => by
    simp only [zipD, List.getElem?_cons_zero, Option.some.injEq] at h
    exact ⟨a, b, rfl, rfl, h.symm⟩
  | a :: l, b :: m, i + 1, d, h => by
    simp only [zipD, List.getElem?_cons_succ] at h
    refine bC fun z_ => ?_
    (obtain ⟨x, y, h1, h2, h3⟩ := zipD_get l m i d h) <;> refine z_ ?_ <;> clear z_
    exact ⟨x, y, by simpa using h1, by simpa using h2, h3⟩
theorem zipD_len : ∀ (l m : List D), (zipD l m).length = min l.length m.length
  | [], _ => by simp [zipD]
  | _ :: _, [] => by simp [zipD]
  | a :: l, b :: m => by rw [zipD, List.length_cons, List.length_cons, List.length_cons, zipD_len]; omega
theorem RepM.get {G : PH} : ∀ {m : List (Int × D)} {kvs : List (Int × Value)} {i : Nat} {k : Int} {x : Value} {p : Int × D}, RepM G m kvs → m[i]? = some p → kvs[i]? = some (k, x) → p.1 = k ∧ Rep G p.2 x
  | [], _, i, k, x, p, r, h, _ => by simp at h
  | (k', d) :: m, _, 0, k, x, p, r, h, e => by
    refine bC fun z_ => ?_
    (obtain ⟨v, q, rfl, r1, r2⟩ := r.cons_iff) <;> refine z_ ?_ <;> clear z_
    simp only [List.getElem?_cons_zero, Option.some.injEq] at h e
    subst h; cases e; exact ⟨rfl, r1⟩
  | (k', d) :: m, _, i + 1, k, x, p, r, h, e => by
    refine bC fun z_ => ?_
    (obtain ⟨v, q, rfl, r1, r2⟩ := r.cons_iff) <;> refine z_ ?_ <;> clear z_
    exact RepM.get r2 (by simpa using h) (by simpa using e)
section
variable {U : U0} {l : Nat} {C : Cx} {Z : Zz}
theorem old_none {s s' : Shared} {G G' : PH} (x : ExtE s s' G G') {a : Addr} (h : s'.heap.get? a = none) : s.heap.get? a = none := x.keep.dead h
theorem SndK.items {e : Expr} {y : X} {ap cp : Pos} {elts : List Expr} {k : Nat} {tp : Pos} (pl : Env → Sem Bool) (h : Snd U l C Z e y)
    (he : ∀ env, eval (.Call (.Attribute e (Str.ofString "items") ap) [] [] cp) env = (do
      let ov ← eval e env
      standAt ap.atName
      let (f, first) ← holding [ov] (getMethod ov (Str.ofString "items") (pl env))
      callWith cp f first (backTo cp (starEach [] env)) [])) : SndK U l C Z (.Call (.Attribute e (Str.ofString "items") ap) [] [] cp) (.Tuple elts k tp) (.items y) := by
  intro A env s G r ds hE hR hB R q
  obtain ⟨d, e1, q⟩ := bsome q
  obtain ⟨m, h_, q⟩ := bsome q
  have h_ := asM_inv h_; subst h_
  cases q
  refine MethodCall_ (pl := pl env) ((h A env s G r _ hE hR hB R e1).use fun v s1 G1 x1 r1 => ?_) (he env)
  simp only [Rep] at r1; obtain ⟨a, o, kvs, rfl, g, io, z, rm⟩ := r1
  have ho := x1.sub _ _ g
  obtain ⟨ep, hat⟩ := (io.at (prog := U.prog) (w := U.w) ho).dictAt
  have hT : s1.TypeIs (.ref a) "dict" := hat.dictOf.typeIs
  have hnd : ∀ b, Value.ref a = .ref b → ∃ ob, s1.heap.get? b = some ob ∧ ob.dict = none := fun b eb => by cases eb; exact ⟨_, ho, by obtain ⟨_, _, ed, _⟩ := io; exact ed.2.1⟩
  refine getMethod_builtin hT PySem.F.plainAttrs_dict PySem.F.slot_dict_items PySem.F.type_dict_items hnd ?_
  refine callWith_builtin rfl (PySem.evalArgs_none ?_)
  refine call_meetsIn PySem.F.slot_dict_items hT PySem.F.entry_dict_items (PySem.F.args_dict_items_1 _) (meets_dict_items (intKind U.prog U.w) a z) ⟨⟨kvs, hat.dictOf⟩, ?_⟩
  have x2 := ExtE.push' (s := s1) (G := G1) (o := { cls := .type "dict_items", data := .fields #[.ref a] }) x1.sub
  have hat2 := hat.push { cls := .type "dict_items", data := .fields #[.ref a] }
  refine wpAny_pyIter_items ⟨_, Heap.get?_push_size _ rfl, rfl, rfl⟩ hat2 ?_
  have x3 := ExtE.push' (s := { s1 with heap := s1.heap.push { cls := .type "dict_items", data := .fields #[.ref a] } }) (G := G1) (o := { cls := .type "dict_itemiterator", data := .fields #[.none, .bool false, .ref a, .int 0 0, .int kvs.length 0, .int ep 0, .none, .none] }) x2.sub
  have xx := (x1.trans x2).trans x3
  generalize hI : ({ s1 with heap := s1.heap.push { cls := .type "dict_items", data := .fields #[.ref a] } } : Shared).heap.objs.size = I at *
  have hI0 : ({ s1 with heap := s1.heap.push { cls := .type "dict_items", data := .fields #[.ref a] } } : Shared).heap.get? I = none := by rw [← hI]; exact fresh_none (Nat.le_refl _)
  have hne : a ≠ I := fun q => by rw [← q, x2.sub _ _ g] at hI0; cases hI0
  have hlen := rm.length
  refine ⟨G1, xx, I, [I, a], [I], _, _, _, rfl, by rw [List.length_map, ← hlen]; exact kti_itemsTurns (knd := intKind U.prog U.w) hR.hand I a hne kvs ep, ?_, ?_, ?_, ?_, ?_, ?_, ?_⟩
  · exact ⟨⟨.none, .none, by rw [← hI]; exact Heap.get?_push_size _ rfl⟩, hat2.push _⟩
  · intro b hb
    rcases List.mem_cons.mp hb with rfl | hb
    · rw [← hI]; rw [Heap.get?_push_size _ rfl]; rfl
    · rw [List.mem_singleton.mp hb, x3.sub _ _ g]; rfl
  · intro b hb
    rw [List.mem_singleton.mp hb]
    exact ⟨old_none (x1.trans x2) hI0, PH.fresh x2.sub hI0⟩
  · intro b hb
    rcases List.mem_cons.mp hb with rfl | hb
    · exact .inl (old_none (x1.trans x2) hI0)
    · rw [List.mem_singleton.mp hb]; exact .inr ⟨_, g⟩
  · rintro i v hh d hd ⟨T, key, k', x, rfl, hk, hkey, hT⟩
    rw [List.getElem?_map, Option.map_eq_some_iff] at hd
    refine bC fun z_ => ?_
    (obtain ⟨p, hp, rfl⟩ := hd) <;> refine z_ ?_ <;> clear z_
    obtain ⟨h1, h2⟩ := rm.get hp hk
    obtain ⟨t, rfl⟩ := Value.isInt_shape hkey
    refine .inr ⟨T, _, _, rfl, rfl, hT, RepL.cons ?_ (RepL.cons h2 RepL.nil)⟩
    simp only [Rep]; exact ⟨t, by rw [h1]⟩
  · rintro i hh ⟨⟨ok, ov, he⟩, _⟩ b hb
    rw [List.mem_singleton.mp hb]
    have he' : hh.get? I = _ := he
    rw [he']; rfl
  · intro x p ex; cases ex
theorem SndK.enum {nm : Str} {e : Expr} {y : X} {p pos : Pos} {elts : List Expr} {k : Nat} {tp : Pos} (b : BltIn U Z nm (.type "enumerate")) (h : Snd U l C Z e y) (hp : notStar e = true) : SndK U l C Z (.Call (.Name nm p) [e] [] pos) (.Tuple elts k tp) (.enum y) := by
  intro A env s G r ds hE hR hB R q
  obtain ⟨d, e1, q⟩ := bsome q
  obtain ⟨ll, h_, q⟩ := bsome q
  have h_ := asL_inv h_; subst h_
  cases q
  refine typ_call b hE hB (one_plain hp) (by simp) (one_arg h hp hE hR hB R e1 fun v s1 G1 x1 r1 => ?_)
  simp only [Rep] at r1; obtain ⟨a, vs, n, rfl, g, rl⟩ := r1
  have ho := x1.sub _ _ g
  have hlen := rl.length; rw [Array.length_toList] at hlen
  have hL : s1.heap.IsList a vs := ⟨_, ho, rfl, n, rfl⟩
  refine call_enumerate_list hL fun h' he hit hsz hk => wpAny_pyIter_enum he ?_
  have x2 := ExtE.grow (tk := s1.toks) x1.sub hk
  have n0 : s1.heap.get? s1.heap.objs.size = none := fresh_none (Nat.le_refl _)
  have n1 : s1.heap.get? (s1.heap.objs.size + 1) = none := fresh_none (Nat.le_succ _)
  have ane := ne_size ho
  have ane1 : a ≠ s1.heap.objs.size + 1 := Nat.ne_of_lt (Nat.lt_succ_of_lt (Heap.lt_size ho))
  refine ⟨G1, x1.trans x2, _, [s1.heap.objs.size + 1, s1.heap.objs.size, a], [s1.heap.objs.size + 1, s1.heap.objs.size], _, _, _, rfl, by rw [enumD_len, ← hlen]; exact KTurns.ofWalksU (WalksT.enumerate hR.hand (s1.heap.objs.size + 1) s1.heap.objs.size a (Nat.ne_of_gt (Nat.lt_succ_self _)) ane1 ane vs).toU, ?_, ?_, ?_, ?_, ?_, ?_, ?_⟩
  · exact ⟨⟨.none, he⟩, hit, hL.at fun o e => hk _ _ e⟩
  · intro b hb
    rcases List.mem_cons.mp hb with rfl | hb
    · have he' : h'.get? (s1.heap.objs.size + 1) = _ := he
      show (h'.get? _).isSome = true; rw [he']; rfl
    · rcases List.mem_cons.mp hb with rfl | hb
      · obtain ⟨o, ho, _⟩ := hit; show (h'.get? _).isSome = true; rw [ho]; rfl
      · rw [List.mem_singleton.mp hb]; show (h'.get? _).isSome = true; rw [hk _ _ ho]; rfl
  · intro b hb
    rcases List.mem_cons.mp hb with rfl | hb
    · exact ⟨old_none x1 n1, PH.fresh x1.sub n1⟩
    · rw [List.mem_singleton.mp hb]; exact ⟨old_none x1 n0, PH.fresh x1.sub n0⟩
  · intro b hb
    rcases List.mem_cons.mp hb with rfl | hb
    · exact .inl (old_none x1 n1)
    · rcases List.mem_cons.mp hb with rfl | hb
      · exact .inl (old_none x1 n0)
      · rw [List.mem_singleton.mp hb]; exact .inr ⟨_, g⟩
  · rintro i v hh d hd ⟨T, vals, rfl, ⟨t, x, hx, rfl⟩, hT⟩
    refine bC fun z_ => ?_
    (obtain ⟨e, he1, rfl⟩ := enumD_get 0 ll i d hd) <;> refine z_ ?_ <;> clear z_
    refine bC fun z_ => ?_
    (obtain ⟨v', hv', rv⟩ := rl.get he1) <;> refine z_ ?_ <;> clear z_
    rw [Array.getElem?_toList, hx] at hv'
    cases hv'
    refine .inr ⟨T, _, _, rfl, rfl, hT, RepL.cons ?_ (RepL.cons rv RepL.nil)⟩
    simp only [Rep]; exact ⟨t, by rw [Nat.zero_add]⟩
  · rintro i hh ⟨⟨old, he⟩, hit, _⟩ b hb
    rcases List.mem_cons.mp hb with rfl | hb
    · have he' : hh.get? (s1.heap.objs.size + 1) = _ := he
      rw [he']; rfl
    · rw [List.mem_singleton.mp hb]; obtain ⟨o, ho, _⟩ := hit; rw [ho]; rfl
  · intro x p ex; cases ex
theorem two_args {e f : Expr} {x y : X} {A : Around} {env : Env} {s : Shared} {G : PH} {r : Rho} {d c : D} {pos : Pos} {Q : List Value → Shared → Prop} {E : Value → Shared → Prop} (h : Snd U l C Z e x) (h' : Snd U l C Z f y) (hp : notStar e = true) (hp' : notStar f = true) (hE : EnvOk Z env) (hR : Room A l) (hB : U.Base s.heap) (R : SRel Z env r G s.heap) (q : ev C r x = some d) (q' : ev C r y = some c)
    (k : ∀ v u s' G', ExtE s s' G G' → Rep G' d v → Rep G' c u → Q [v, u] s') : wpAny (model U.prog U.w) A (spliced (backTo pos (starEach [e, f] env))) Q E s :=
  wpAny_items_cons ((h A env s G r d hE hR hB R q).use fun v s1 G1 x1 r1 => wpAny_items_cons ((h' A env s1 G1 r c hE hR (hB.keeps x1.keep) (R.ext x1) q').use fun u s2 G2 x2 r2 => wpAny_items_nil (k v u s2 G2 (x1.trans x2) (r1.mono x2.le) r2)) (starEach_plain hp')) (starEach_plain hp)
theorem SndK.zip {nm : Str} {e f : Expr} {y z : X} {p pos : Pos} {elts : List Expr} {k : Nat} {tp : Pos} (b : BltIn U Z nm (.type "zip")) (h : Snd U l C Z e y) (h2 : Snd U l C Z f z) (hp : notStar e = true) (hp2 : notStar f = true) : SndK U l C Z (.Call (.Name nm p) [e, f] [] pos) (.Tuple elts k tp) (.zip y z) := by
  intro A env s G r ds hE hR hB R q
  obtain ⟨d, e1, k_⟩ := bsome q
  obtain ⟨c, e2, q⟩ := bsome k_
  obtain ⟨ll, h_, q1⟩ := bsome q
  obtain ⟨mm, h'_, q2⟩ := bsome q1
  have h_ := asL_inv h_; subst h_
  have h'_ := asL_inv h'_; subst h'_
  clear q q1
  · cases q2
    refine typ_call b hE hB (by unfold allPlain allPlain allPlain; rw [hp, hp2]; rfl) (by simp) (two_args h h2 hp hp2 hE hR hB R e1 e2 fun v u s1 G1 x1 r1 r2 => ?_)
    simp only [Rep] at r1 r2
    refine bC fun z_ => ?_
    (obtain ⟨a, vs, n, rfl, g, rl⟩ := r1) <;> refine z_ ?_ <;> clear z_
    refine bC fun z_ => ?_
    (obtain ⟨a', vs', n', rfl, g', rl'⟩ := r2) <;> refine z_ ?_ <;> clear z_
    have ho := x1.sub _ _ g
    have ho' := x1.sub _ _ g'
    have hlen := rl.length; rw [Array.length_toList] at hlen
    have hlen' := rl'.length; rw [Array.length_toList] at hlen'
    have hL : s1.heap.IsList a vs := ⟨_, ho, rfl, n, rfl⟩
    have hL' : s1.heap.IsList a' vs' := ⟨_, ho', rfl, n', rfl⟩
    refine call_zip_2 hL hL' fun h' hz hTI hTO hi1 hi2 hsz hk => wpAny_pyIter_zip hz ?_
    have x2 := ExtE.grow (tk := s1.toks) x1.sub hk
    have nn : ∀ j, s1.heap.get? (s1.heap.objs.size + j) = none := fun j => fresh_none (Nat.le_add_right _ _)
    have na : ∀ j, a ≠ s1.heap.objs.size + j := fun j => Nat.ne_of_lt (Nat.lt_of_lt_of_le (Heap.lt_size ho) (Nat.le_add_right _ _))
    have na' : ∀ j, a' ≠ s1.heap.objs.size + j := fun j => Nat.ne_of_lt (Nat.lt_of_lt_of_le (Heap.lt_size ho') (Nat.le_add_right _ _))
    have D : ZipApart (s1.heap.objs.size + 4) (s1.heap.objs.size + 2) (s1.heap.objs.size + 3) s1.heap.objs.size (s1.heap.objs.size + 1) a a' := by
      constructor <;> first | exact Nat.ne_of_lt (by omega) | exact Nat.ne_of_gt (by omega) | exact na 0 | exact na 1 | exact na 2 | exact na 3 | exact na 4 | exact na' 0 | exact na' 1 | exact na' 2 | exact na' 3 | exact na' 4
    have hz' : h'.get? (s1.heap.objs.size + 4) = _ := hz
    have hTI' : h'.get? (s1.heap.objs.size + 2) = _ := hTI
    have hTO' : h'.get? (s1.heap.objs.size + 3) = _ := hTO
    refine ⟨G1, x1.trans x2, _, _, _, _, _, _, rfl, by rw [zipD_len, ← hlen, ← hlen']; exact KTurns.ofWalksU (WalksT.zip2 hR.hand _ _ _ _ _ a a' D vs vs').toU, ?_, ?_, ?_, ?_, ?_, ?_, ?_⟩
    · exact ⟨hz, hTI, ⟨_, _, hTO⟩, hi1, hi2, hL.at fun o e => hk _ _ e, hL'.at fun o e => hk _ _ e⟩
    · intro b hb
      show (h'.get? b).isSome = true
      simp only [List.mem_cons, List.not_mem_nil, or_false] at hb
      rcases hb with rfl | rfl | rfl | rfl | rfl | rfl | rfl
      · rw [hz']; rfl
      · rw [hTI']; rfl
      · rw [hTO']; rfl
      · obtain ⟨o, ho, _⟩ := hi1; rw [ho]; rfl
      · obtain ⟨o, ho, _⟩ := hi2; rw [ho]; rfl
      · rw [hk _ _ ho]; rfl
      · rw [hk _ _ ho']; rfl
    · intro b hb
      simp only [List.mem_cons, List.not_mem_nil, or_false] at hb
      rcases hb with rfl | rfl | rfl | rfl
      · exact ⟨old_none x1 (nn 4), PH.fresh x1.sub (nn 4)⟩
      · exact ⟨old_none x1 (nn 3), PH.fresh x1.sub (nn 3)⟩
      · exact ⟨old_none x1 (nn 0), PH.fresh x1.sub (nn 0)⟩
      · exact ⟨old_none x1 (nn 1), PH.fresh x1.sub (nn 1)⟩
    · intro b hb
      simp only [List.mem_cons, List.not_mem_nil, or_false] at hb
      rcases hb with rfl | rfl | rfl | rfl | rfl | rfl | rfl
      · exact .inl (old_none x1 (nn 4))
      · exact .inl (old_none x1 (nn 2))
      · exact .inl (old_none x1 (nn 3))
      · exact .inl (old_none x1 (nn 0))
      · exact .inl (old_none x1 (nn 1))
      · exact .inr ⟨_, g⟩
      · exact .inr ⟨_, g'⟩
    · rintro i v hh d hd ⟨T, vals, rfl, ⟨x, y, hx, hy, rfl⟩, hT⟩
      refine bC fun z_ => ?_
      (obtain ⟨p1, p2, hp1, hp2, rfl⟩ := zipD_get ll mm i d hd) <;> refine z_ ?_ <;> clear z_
      refine bC fun z_ => ?_
      (obtain ⟨v1, hv1, rv1⟩ := rl.get hp1) <;> refine z_ ?_ <;> clear z_
      refine bC fun z_ => ?_
      (obtain ⟨v2, hv2, rv2⟩ := rl'.get hp2) <;> refine z_ ?_ <;> clear z_
      rw [Array.getElem?_toList, hx] at hv1
      rw [Array.getElem?_toList, hy] at hv2
      cases hv1; cases hv2
      exact .inr ⟨T, _, _, rfl, rfl, hT, RepL.cons rv1 (RepL.cons rv2 RepL.nil)⟩
    · rintro i hh ⟨q1, q2, ⟨_, _, q3⟩, q4, q5, _⟩ b hb
      have q1' : hh.get? (s1.heap.objs.size + 4) = _ := q1
      have q3' : hh.get? (s1.heap.objs.size + 3) = _ := q3
      simp only [List.mem_cons, List.not_mem_nil, or_false] at hb
      rcases hb with rfl | rfl | rfl | rfl
      · rw [q1']; rfl
      · rw [q3']; rfl
      · obtain ⟨o, ho, _⟩ := q4; rw [ho]; rfl
      · obtain ⟨o, ho, _⟩ := q5; rw [ho]; rfl
    · intro x p ex; cases ex
/- a list whose items are unpacked -/
theorem SndK.list {e : Expr} {y : X} {elts : List Expr} {k : Nat} {tp : Pos} (h : Snd U l C Z e y) (hl : ∀ r d, ev C r y = some d → ∃ l, d = .list l) : SndK U l C Z e (.Tuple elts k tp) (.plain y) := by
  intro A env s G r ds hE hR hB R q
  obtain ⟨d, e1, q⟩ := bsome q
  obtain ⟨ll, rfl⟩ := hl r d e1
  refine (h A env s G r _ hE hR hB R e1).use fun v s1 G1 x1 r1 => ?_
  simp only [iterD, Option.some.injEq] at q; subst q
  simp only [Rep] at r1; obtain ⟨a, vs, n, rfl, g, rl⟩ := r1
  have ho := x1.sub _ _ g
  have hlen := rl.length; rw [Array.length_toList] at hlen
  have hL : s1.heap.IsList a vs := ⟨_, ho, rfl, n, rfl⟩
  refine wpAny_pyIter_list hL ?_
  have x2 := ExtE.push' (s := s1) (G := G1) (o := { cls := .type "list_iterator", data := .fields #[.ref a, .int 0 0] }) x1.sub
  have n0 : s1.heap.get? s1.heap.objs.size = none := fresh_none (Nat.le_refl _)
  refine ⟨G1, x1.trans x2, _, [s1.heap.objs.size, a], [s1.heap.objs.size], _, _, _, rfl, by rw [← hlen]; exact KTurns.ofWalks (Walks.list hR.hand _ a (ne_size ho) vs) (fun i v s Q E st q => letGo_listiter st.1 q), ?_, ?_, ?_, ?_, ?_, ?_, ?_⟩
  · exact ⟨⟨_, Heap.get?_push_size _ rfl, rfl, rfl⟩, hL.push _⟩
  · intro b hb
    rcases List.mem_cons.mp hb with rfl | hb
    · rw [Heap.get?_push_size _ rfl]; rfl
    · rw [List.mem_singleton.mp hb, x2.sub _ _ g]; rfl
  · intro b hb; rw [List.mem_singleton.mp hb]; exact ⟨old_none x1 n0, PH.fresh x1.sub n0⟩
  · intro b hb
    rcases List.mem_cons.mp hb with rfl | hb
    · exact .inl (old_none x1 n0)
    · rw [List.mem_singleton.mp hb]; exact .inr ⟨_, g⟩
  · intro i v hh d hd hv
    refine bC fun z_ => ?_
    (obtain ⟨v', hv', rv⟩ := rl.get hd) <;> refine z_ ?_ <;> clear z_
    rw [Array.getElem?_toList, hv] at hv'
    cases hv'; exact .inl rv
  · rintro i hh ⟨⟨o, hi, _⟩, _⟩ b hb
    rw [List.mem_singleton.mp hb, hi]; rfl
  · intro x p ex; cases ex
end
end Mine
end

/- part EK -/
section
open PySem PySem.W PyProof.Rows PySem.Calls PySem.Spec PyProof.V PySem.Builtin PySem.Builtin.Str
set_option maxRecDepth 10000
namespace Mine
/- what a call of that object gives -/
noncomputable def CallOk (U : U0) (l : Nat) (a : Addr) (φ : List D → Option D) : Prop :=
  keepIn U.K (.ref a) = true ∧ ∀ (A : Around) (s : Shared) (G : PH) (ds : List D) (vs : List Value) (d : D), Room A l → U.Base s.heap → (∀ a o, G a = some o → s.heap.get? a = some o) → G tabP = none → RepL G ds vs → φ ds = some d → OkV U.prog U.w A (call (.ref a) vs) s G d
section
variable {U : U0} {l : Nat} {C : Cx} {Z : Zz}
theorem Snd.call {nm : Str} {a : Addr} {es : List Expr} {xs : List X} {p pos : Pos} (e : nsIn U.K mainGlobals nm = some (some (.ref a))) (hk : Z.sc.names.lookup nm = some .globalImplicit) (hn : (nm == ("__debug__" : Str)) = false) (hc : CallOk U l a (C.Φ a)) (h : SndL U l C Z es xs) (hp : allPlain es = true) (hne : es ≠ []) :
    Snd U l C Z (.Call (.Name nm p) es [] pos) (.call a xs) := by
  intro A env s G r d hE hR hB R q
  obtain ⟨ds, q1, q⟩ := bsome q
  obtain ⟨hkp, hc⟩ := hc
  obtain ⟨e0, es0, rfl⟩ : ∃ e0 es0, es = e0 :: es0 := by cases es with | nil => exact absurd rfl hne | cons a b => exact ⟨a, b, rfl⟩
  have hp0 := hp
  unfold allPlain at hp0; rw [Bool.and_eq_true] at hp0
  refine Call_ (Name_function_global hE.kind (by unfold Env.kindOf; rw [hE.sc]; exact hk) (loadGlobal_global (by rw [hE.glob]; exact hB.top.g) (mg_of hB.ins hB.top.g e) ?_) hn)
  refine callWith_K hB.ins hkp (more_args h hE hR hB R q1 fun vs s1 G1 x1 r1 => ⟨(hB.keeps x1.keep).ins, ?_⟩) (starEach_plain hp0.1) (plain_any hp0.2)
  exact OkV.pre x1 (hc A s1 G1 ds vs d hR (hB.keeps x1.keep) x1.sub (R.ext x1).gt r1 q)
theorem cellsFrom_some {x : Str} : ∀ (names : List (Str × NameKind)) (n : Nat) (acc : List (Str × Addr)), ((x, NameKind.cell) ∈ names ∨ (acc.lookup x).isSome = true) → ((cellsFrom n names acc).lookup x).isSome = true
  | [], n, acc, h => by
    rcases h with h | h
    · cases h
    · exact h
  | (y, k) :: r, n, acc, h => by
    unfold cellsFrom
    by_cases hk : (k == NameKind.cell) = true
    · rw [if_pos hk]
      refine cellsFrom_some r _ _ ?_
      by_cases q : x = y
      · subst q; right; rw [List.lookup_cons, beq_self_eq_true]; rfl
      · rcases h with h | h
        · rcases List.mem_cons.mp h with e | h
          · cases e; exact absurd rfl q
          · exact .inl h
        · right; rw [List.lookup_cons, show (x == y) = false from beq_eq_false_iff_ne.mpr q]; exact h
    · rw [if_neg hk]
      refine cellsFrom_some r _ _ ?_
      rcases h with h | h
      · rcases List.mem_cons.mp h with e | h
        · cases e; exact absurd rfl hk
        · exact .inl h
      · exact .inr h
theorem bindL_other {kindOf : Str → Option NameKind} {x : Str} : ∀ (binds : List (Str × Value)) (m : Str → Option Value), (∀ p ∈ binds, p.1 ≠ x) → bindL kindOf binds m x = m x
  | [], _, _ => rfl
  | (n, v) :: r, m, h => by
    unfold bindL
    rw [bindL_other r _ fun p hp => h p (.tail _ hp)]
    have := h (n, v) (.head _)
    split
    · simp [Ne.symm this]
    · rfl
theorem bindC_other {kindOf : Str → Option NameKind} {x : Str} : ∀ (binds : List (Str × Value)) (m : Str → Option Value), (∀ p ∈ binds, p.1 ≠ x) → bindC kindOf binds m x = m x
  | [], _, _ => rfl
  | (n, v) :: r, m, h => by
    unfold bindC
    rw [bindC_other r _ fun p hp => h p (.tail _ hp)]
    have := h (n, v) (.head _)
    split
    · rfl
    · simp [Ne.symm this]
theorem bindL_at {kindOf : Str → Option NameKind} {x : Str} {v : Value} (hk : kindOf x = some .local) : ∀ (binds : List (Str × Value)) (m : Str → Option Value), (binds.map (·.1)).Nodup → (x, v) ∈ binds → bindL kindOf binds m x = some v
  | [], _, _, h => nomatch h
  | (n, u) :: r, m, nd, h => by
    rw [List.map_cons, List.nodup_cons] at nd
    unfold bindL
    rcases List.mem_cons.mp h with e | h
    · cases e
      rw [if_pos hk, bindL_other r _ fun p hp q => nd.1 (List.mem_map.mpr ⟨p, hp, q⟩)]
      simp
    · exact bindL_at hk r _ nd.2 h
theorem bindC_at {kindOf : Str → Option NameKind} {x : Str} {v : Value} (hk : kindOf x = some .cell) : ∀ (binds : List (Str × Value)) (m : Str → Option Value), (binds.map (·.1)).Nodup → (x, v) ∈ binds → bindC kindOf binds m x = some v
  | [], _, _, h => nomatch h
  | (n, u) :: r, m, nd, h => by
    rw [List.map_cons, List.nodup_cons] at nd
    unfold bindC
    rcases List.mem_cons.mp h with e | h
    · cases e
      rw [if_neg (by rw [hk]; decide), bindC_other r _ fun p hp q => nd.1 (List.mem_map.mpr ⟨p, hp, q⟩)]
      simp
    · exact bindC_at hk r _ nd.2 h
/- a def of the text's -/
structure DefAt (K : Frag) (f : Addr) (Z : Zz) (ps : List Str) (body : List Stmt) : Prop where
  at_ : ∃ o fd, K.lookup f = some o ∧ o.data = .func fd ∧ fd.body = .stmts body ∧ fd.scope = Z.sc ∧ fd.code = Z.code ∧ fd.closure = [] ∧ fd.globals = mainGlobals ∧ fd.builtins = builtinsNs ∧ codeIn K fd.code fd.qualname = true ∧
    (∀ vals : List Value, vals.length = ps.length → bindArgs fd ⟨vals, []⟩ = pure (ps.zip vals)) ∧ fd.scope.isCoroutine = false ∧ fd.scope.isGenerator = false ∧ fd.scope.kind = .function
  params : ∀ i x, ps[i]? = some x → Storable Z i x
  nd : Z.tbl.Nodup
  ndp : ps.Nodup
theorem args_get : ∀ {ds : List D} {i : Nat} {b : Bool} {d : D}, Rho.args ds i = some (b, d) → b = false ∧ ds[i]? = some d
  | [], i, b, d, h => by simp [Rho.args] at h
  | a :: ds, 0, b, d, h => by
    simp only [Rho.args, Option.some.injEq, Prod.mk.injEq] at h
    exact ⟨h.1.symm, by rw [← h.2]; rfl⟩
  | a :: ds, i + 1, b, d, h => by
    simp only [Rho.args] at h
    simpa using args_get h
theorem call_def {f : Addr} {ps : List Str} {body : List Stmt} {Ss : List S} (H : DefAt U.K f Z ps body) (h : SndSs U l C Z body Ss) : CallOk U (l + 1) f (fun ds => if ds.length = ps.length then run C Ss ds else none) := by
  refine bC fun z_ => ?_
  (obtain ⟨o, fd, ho, hd, hbody, hsc, hfc, hclo, hgl, hbl, hcd, hbind, hco, hgen, hkind⟩ := H.at_) <;> refine z_ ?_ <;> clear z_
  refine ⟨by unfold keepIn; dsimp only; rw [ho]; obtain ⟨oc, od, dt, sl⟩ := o; dsimp only at hd; subst hd; rfl, fun A s G ds vs d hR hB hG gt rl e => ?_⟩
  dsimp only at e
  obtain ⟨hlen, e⟩ := isome e
  have hvl := rl.length
  obtain ⟨p', he, e⟩ := bsome e
  obtain ⟨qf, r'⟩ := p'
  have e := val_inv e
  dsimp only at e
  subst e
  · skip
    have hk : ∀ i x, ps[i]? = some x → fd.scope.names.lookup x = some .local ∨ fd.scope.names.lookup x = some .cell := fun i x hx => by rw [hsc]; exact (H.params i x hx).2
    have hzip : ∀ p ∈ ps.zip vs, ∃ i, ps[i]? = some p.1 ∧ vs[i]? = some p.2 := fun p hp => by
      obtain ⟨i, hi⟩ := List.mem_iff_getElem?.mp hp
      rw [List.getElem?_zip_eq_some] at hi
      exact ⟨i, hi.1, hi.2⟩
    have ndz : ((ps.zip vs).map (·.1)).Nodup := by
      rw [List.map_fst_zip (by omega)]
      exact H.ndp
    refine wpAny_call (codeAny_call_cells (binds := ps.zip vs) (by have := hR.depth; omega) (hB.ins _ _ ho) hd hB.lim (codeRec_of hB.ins hcd) hbody (hbind vs (by omega)) hclo (fun p hp => ?_) (fun s₁ x => ?_) hco hgen hkind)
    · obtain ⟨i, hi, _⟩ := hzip p hp
      rcases hk i p.1 hi with q | q
      · exact .inl q
      · exact .inr ⟨q, cellsFrom_some _ _ _ (.inl (mem_of_lookup q))⟩
    have hEnv : (callEnvC fd s.heap.objs.size f).scope = Z.sc := hsc
    have hE : EnvOk Z (callEnvC fd s.heap.objs.size f) := ⟨hsc, hkind, hgl, hbl, fun y hy => Option.isSome_iff_exists.mp (cellsFrom_some _ _ _ (.inl (mem_of_lookup (by rw [hsc]; exact hy)))), H.nd, hfc⟩
    have hlow : ∀ a, s.heap.objs.size ≤ a → s.heap.get? a = none := fun a ha => fresh_none ha
    have hLf : s.heap.objs.size ≤ (callEnvC fd s.heap.objs.size f).locals := x.toInCall.fresh
    have hcf : ∀ n c, (callEnvC fd s.heap.objs.size f).cells.lookup n = some c → s.heap.get? c = none ∧ c ≠ (callEnvC fd s.heap.objs.size f).locals := fun n c hc => by
      have := x.above n c (mem_of_lookup hc)
      exact ⟨hlow c (Nat.le_trans hLf (Nat.le_of_lt this)), Nat.ne_of_gt this⟩
    have gle : ∀ a o, G a = some o → s₁.heap.get? a = some o := fun a o e => x.toInCall.keep a o (hG a o e)
    have gn : ∀ a, s.heap.get? a = none → G a = none := fun a ha => PH.fresh hG ha
    have F : FR Z (callEnvC fd s.heap.objs.size f) (Rho.args ds) G s.heap s₁.heap (fun _ => none) := by
      refine ⟨.of x.toInCall.keep, gle, hlow _ hLf, ⟨gt, gn _ (hlow _ hLf)⟩, fun n c hc => ⟨(hcf n c hc).1, gn _ (hcf n c hc).1, (hcf n c hc).2⟩, ⟨hB.tab, fun n n' c h1 h2 => name_of_addr x.apart (mem_of_lookup h1) (mem_of_lookup h2)⟩, fun i a e => (nomatch e), fun i j a e => (nomatch e), _, _, x.toInCall.ns, x.cell, fun i b d hi => ?_⟩
      obtain ⟨rfl, hdi⟩ := args_get hi
      refine bC fun z_ => ?_
      (obtain ⟨v, hv, rv⟩ := rl.get hdi) <;> refine z_ ?_ <;> clear z_
      have hil : i < ps.length := by rw [← hlen]; exact (List.getElem?_eq_some_iff.mp hdi).1
      have hpi : ps[i]? = some ps[i] := List.getElem?_eq_getElem hil
      obtain ⟨ht, hks⟩ := H.params i _ hpi
      have hmem : (ps[i], v) ∈ ps.zip vs := List.mem_iff_getElem?.mpr ⟨i, List.getElem?_zip_eq_some.mpr ⟨hpi, hv⟩⟩
      have hkf : (callEnvC fd s.heap.objs.size f).kindOf ps[i] = Z.sc.names.lookup ps[i] := by unfold Env.kindOf; rw [hEnv]
      refine ⟨_, v, ht, ?_, rv.top gle, fun _ => rv, fun q => by cases q⟩
      rcases hks with q | q
      · exact .inl ⟨hkf.trans q, bindL_at (hkf.trans q) _ _ ndz hmem⟩
      · obtain ⟨c, hc⟩ := hE.cel _ q
        exact .inr ⟨hkf.trans q, c, hc, bindC_at (hkf.trans q) _ _ ndz hmem⟩
    have hR' : Room (A.deeper (callEnvC fd s.heap.objs.size f)) l := ⟨hR.hand, by have := hR.depth; show A.depth + 1 + 20 * l < _; omega, by have := hR.units; show A.units + 3 + 200 * l < _; omega⟩
    have hsm : s₁.os = s.os ∧ s₁.gens = s.gens := by obtain ⟨h1, tk, e⟩ := x.toInCall.same; subst e; exact ⟨rfl, rfl⟩
    refine wpAny_mono (h _ _ s₁ s.heap G _ _ (.ret d) r' hE hR' hB F he) (fun fl s' h_ => ?_) fun _ _ f => f.elim
    refine bC fun z_ => ?_
    (obtain ⟨G', ow', X, F', z⟩ := h_) <;> refine z_ ?_ <;> clear z_
    cases fl <;> first | (exact z.elim) | skip
    refine ⟨G', ⟨F'.keep₀, X.le, F'.gle, fun a ha => ?_, X.os.trans hsm.1, fun q => X.gens (hsm.2 ▸ q)⟩, z⟩
    obtain ⟨o', ho'⟩ := Option.isSome_iff_exists.mp ha
    by_cases n : a = tabP
    · rw [n, gt]; exact F'.gL.1
    refine X.old a n (by rw [x.toInCall.keep _ _ ho']; rfl) fun hm => ?_
    have := (F.mtG hm).2.1
    rw [this] at ha; cases ha
end
end Mine
end

/- part EL -/
section
open PySem PySem.W PyProof.Rows PySem.Calls PySem.Spec PyProof.V PySem.Builtin PySem.Builtin.Str
set_option maxRecDepth 10000
namespace Mine
noncomputable abbrev fldName : Str := Str.ofString "comp_select_list"
/- the text's class of one attribute -/
structure ClsOk (K : Frag) (C fI : Addr) : Prop where
  makes : makesIn K C = true
  keep : keepIn K (.ref C) = true
  init : findIn K (.ref C) "__init__" = some (some (.ref fI))
  fn : typeIn K (.ref fI) = some (.type "function")
  setattr : findIn K (.ref C) "__setattr__" = some (some (.builtin "object.__setattr__"))
  over : plainOver K C = true
  taker : takerIn K C fldName = some none
  dict : hasDictIn K C = true
  get : plainGet K C fldName = true
  attr : findIn K (.ref C) fldName = some none
/- its __init__ -/
structure InitAt (K : Frag) (f : Addr) (sc : Scope) (p1 p2 p3 p4 : Pos) : Prop where
  at_ : ∃ o fd, K.lookup f = some o ∧ o.data = .func fd ∧ fd.body = .stmts [.Assign [.Attribute (.Name (Str.ofString "self") p1) fldName p2] (.Name fldName p3) p4] ∧ fd.scope = sc ∧ codeIn K fd.code fd.qualname = true ∧
    (∀ x v : Value, bindArgs fd ⟨[x, v], []⟩ = pure [(Str.ofString "self", x), (fldName, v)]) ∧ fd.scope.isCoroutine = false ∧ fd.scope.isGenerator = false ∧ fd.scope.kind = .function
  cell : ∀ x ∈ sc.names, x.2 ≠ .cell
  l1 : sc.names.lookup (Str.ofString "self") = some .local
  l2 : sc.names.lookup fldName = some .local
section
variable {U : U0} {l : Nat} {C : Cx} {Z : Zz}
theorem RepL.one {G : PH} {d : D} {vs : List Value} (r : RepL G [d] vs) : ∃ v, vs = [v] ∧ Rep G d v := by
  refine bC fun z_ => ?_
  (obtain ⟨v, q, rfl, r1, r2⟩ := r.cons_iff) <;> refine z_ ?_ <;> clear z_
  have := r2.nil_iff; subst this
  exact ⟨v, rfl, r1⟩
noncomputable def mkInst (c : Addr) (l : List D) : Option D := (oneD l).bind fun d => d.asL.bind fun q => some (.inst c (.list q))
theorem call_cls {c fI : Addr} {sc : Scope} {p1 p2 p3 p4 : Pos} (H : ClsOk U.K c fI) (I : InitAt U.K fI sc p1 p2 p3 p4) : CallOk U (l + 1) c (mkInst c) := by
  refine ⟨H.keep, fun A s G ds vs d hR hB hG gt rl e => ?_⟩
  refine bC fun z_ => ?_
  (obtain ⟨d1, h1_, q1⟩ := bsome e; obtain ⟨q, h2_, q2⟩ := bsome q1; have h1_ := oneD_inv h1_; have h2_ := asL_inv h2_; subst h2_ h1_; obtain ⟨v, rfl, rv⟩ := rl.one; clear e q1) <;> refine z_ ?_ <;> clear z_
  · cases q2
    refine bC fun z_ => ?_
    (obtain ⟨o, fd, ho, hd, hbody, hsc, hcd, hbind, hco, hgen, hkind⟩ := I.at_) <;> refine z_ ?_ <;> clear z_
    have X := hB.ins
    refine wpAny_call ?_
    refine bC fun z_ => ?_
    (obtain ⟨hh, g, dr, t, os⟩ := s) <;> refine z_ ?_ <;> clear z_
    refine make_core (makes_of X H.makes) (looks_findIn X H.init) (fun self => bind_fn X self H.fn) (.inl rfl) ?_
    have k2 : ∀ b o, hh.get? b = some o → ((hh.push emptyDict).push (instObj c hh.objs.size)).get? b = some o := fun b o e => Heap.get?_push_of_some _ (Heap.get?_push_of_some _ e)
    have B2 := hB.keeps (h' := (hh.push emptyDict).push (instObj c hh.objs.size)) (.of k2)
    have hw : (Code.builtin "type.__call__" ⟨[.ref c, v], []⟩).weight ≤ 5 := by
      have h1 : (Code.builtin "type.__call__" ⟨[.ref c, v], []⟩).frames = 0 := rfl
      have h2 : (Code.builtin "type.__call__" ⟨[.ref c, v], []⟩).isGuard = false := by show guardIds.contains "type.__call__" = false; decide +kernel
      have h3 : (Code.builtin "type.__call__" ⟨[.ref c, v], []⟩).isCaller = false := rfl
      unfold Code.weight
      rw [h1, h2, h3]
      by_cases q : (Code.builtin "type.__call__" ⟨[.ref c, v], []⟩).isCreation = true <;> simp [q]
    refine codeAny_call_def (fd := fd) (binds := [(Str.ofString "self", .ref (hh.objs.size + 1)), (fldName, v)]) (by have := hR.depth; show A.depth + _ < _; omega) (B2.ins _ _ ho) hd B2.lim (codeRec_of B2.ins hcd) hbody (.of_eq (hbind _ _)) (by rw [hsc]; exact I.cell) (fun y hy => ?_) (fun h1 hn hk1 => ?_) hco hgen hkind
    · rw [hsc]
      rcases List.mem_cons.mp hy with e | hy
      · rw [e]; exact I.l1
      · rw [List.mem_singleton.mp hy]; exact I.l2
    have hsz : ((hh.push emptyDict).push (instObj c hh.objs.size)).objs.size = hh.objs.size + 2 := by rw [Heap.size_push, Heap.size_push]
    have hk1' : ∀ b o, ((hh.push emptyDict).push (instObj c hh.objs.size)).get? b = some o → h1.get? b = some o := hk1
    have gx : h1.get? (hh.objs.size + 1) = some (instObj c hh.objs.size) := hk1' _ _ (by rw [← Heap.size_push hh emptyDict]; exact Heap.get?_push_size _ rfl)
    have gd : h1.get? hh.objs.size = some emptyDict := hk1' _ _ (Heap.get?_push_of_some _ (Heap.get?_push_size _ rfl))
    have n0 : hh.get? hh.objs.size = none := Heap.get?_none_of_le (Nat.le_refl _)
    have n1 : hh.get? (hh.objs.size + 1) = none := Heap.get?_none_of_le (Nat.le_succ _)
    replace hn : h1.Ns (hh.objs.size + 2) (fun x => List.lookup x [(Str.ofString "self", Value.ref (hh.objs.size + 1)), (fldName, v)].reverse) := by rw [← hsz]; exact hn
    have F : Fr hh (hh.objs.size + 2) h1 _ := ⟨hn, fun b o e => hk1' _ _ (k2 b o e), by omega⟩
    have N : News hh (hh.objs.size + 2) h1 [(hh.objs.size + 1, instObj c hh.objs.size), (hh.objs.size, emptyDict)] := by
      intro p hp
      rcases List.mem_cons.mp hp with e | hp
      · rw [e]; exact ⟨gx, Nat.ne_of_lt (Nat.lt_succ_self _), n1⟩
      · rw [List.mem_singleton.mp hp]; exact ⟨gd, Nat.ne_of_lt (by omega), n0⟩
    have hcl : (callEnv fd ((hh.push emptyDict).push (instObj c hh.objs.size)).objs.size fI).locals = hh.objs.size + 2 := hsz
    refine wpAny_execs_cons (plainObj_wpAny_Assign_Attribute ?_)
    refine wpAny_Name (wpAny_loadName_local hkind (v := v) (show fd.scope.names.lookup fldName = some .local by rw [hsc]; exact I.l2) (by rw [hcl]; exact hn) (by rfl) ?_) (by decide +kernel)
    refine wpAny_Name (wpAny_loadName_local hkind (v := .ref (hh.objs.size + 1)) (show fd.scope.names.lookup (Str.ofString "self") = some .local by rw [hsc]; exact I.l1) (by rw [hcl]; exact hn) (by rfl) ?_) (by decide +kernel)
    refine set_dict (C := c) (ox := instObj c hh.objs.size) (es := []) (n := 0) F hB.ins N ⟨gx, rfl, rfl, gd⟩ rfl H.setattr H.over H.taker H.dict rfl rfl (.tail (Nat.ne_of_gt (Nat.lt_succ_self _)) (.head (fun _ h => nomatch h))) (by simp [putL]) fun h' F' N' => ?_
    refine wpAny_pure ?_
    have hx' := (N' _ (.head _)).1
    have hd' := (N' _ (.tail _ (.head _))).1
    simp only [Rep] at rv
    refine bC fun z_ => ?_
    (obtain ⟨a', vs', n', rfl, gv, rl'⟩ := rv) <;> refine z_ ?_ <;> clear z_
    obtain ⟨T, hd'⟩ : ∃ T, h'.get? hh.objs.size = some (dictOf (putL fldName (PyData.keyHash U.w.params fldName) (.str fldName T) (.ref a') []) (putN fldName [] 0)) := ⟨_, hd'⟩
    have g0 : G hh.objs.size = none := PH.fresh (s := ⟨hh, g, dr, t, os⟩) hG n0
    have g1 : (G.put hh.objs.size (dictOf (putL fldName (PyData.keyHash U.w.params fldName) (.str fldName T) (.ref a') []) (putN fldName [] 0))) (hh.objs.size + 1) = none := by
      simp only [PH.put]
      rw [if_neg (Nat.ne_of_gt (Nat.lt_succ_self _))]
      exact PH.fresh (s := ⟨hh, g, dr, t, os⟩) hG n1
    refine ⟨rfl, ?_⟩
    refine ⟨(G.put hh.objs.size _).put (hh.objs.size + 1) (instObj c hh.objs.size), ⟨.of F'.keep, (PH.le_put g0).trans (PH.le_put g1), fun b o e => ?_, fun b hb => ?_, rfl, id⟩, ?_⟩
    · by_cases q : b = hh.objs.size + 1
      · subst q; rw [PH.put_self] at e; cases e; exact hx'
      · simp only [PH.put, q, if_false] at e
        by_cases q2 : b = hh.objs.size
        · subst q2; simp at e; rw [← e]; exact hd'
        · simp only [q2, if_false] at e; exact F'.keep _ _ (hG _ _ e)
    · have q1 : b ≠ hh.objs.size + 1 := fun q => by
        have hb' : (hh.get? b).isSome = true := hb
        rw [q, n1] at hb'; cases hb'
      have q2 : b ≠ hh.objs.size := fun q => by
        have hb' : (hh.get? b).isSome = true := hb
        rw [q, n0] at hb'; cases hb'
      simp [PH.put, q1, q2]
    · simp only [Rep]
      refine ⟨hh.objs.size + 1, hh.objs.size, _, dictOf (putL fldName (PyData.keyHash U.w.params fldName) (.str fldName T) (.ref a') []) (putN fldName [] 0), T, PyData.keyHash U.w.params fldName, .ref a', putN fldName [] 0, rfl, PH.put_self _ _ _, ?_, rfl, by simp [putL], a', vs', n', rfl, ?_, rl'.mono ((PH.le_put g0).trans (PH.le_put g1))⟩
      · simp only [PH.put]
        rw [if_neg (Nat.ne_of_lt (Nat.lt_succ_self _)), if_pos trivial]
      · exact ((PH.le_put g0).trans (PH.le_put g1)) _ _ gv
theorem snd_fld {x : Str} {y : X} {p pos : Pos} {c fI : Addr} (H : ClsOk U.K c fI) (h : Snd U l C Z (.Name x p) y) : Snd U l C Z (.Attribute (.Name x p) fldName pos) (.fld c y) := by
  intro A env s G r d hE hR hB R q
  obtain ⟨d1, e1, q⟩ := bsome q
  obtain ⟨⟨c', dl⟩, h_, q1⟩ := bsome q
  obtain ⟨ll, h'_, q2⟩ := bsome q1
  obtain ⟨hcc, q3⟩ := isome q2
  have h'_ := asL_inv h'_
  have h_ := asN_inv h_
  dsimp only at h_ h'_ hcc
  subst h'_ h_ hcc
  clear q q1 q2
  · cases q3
    refine Attribute_Name_ ((h A env s G r _ hE hR hB R e1).use fun v s1 G1 x1 r1 => ?_)
    simp only [Rep] at r1
    refine bC fun z_ => ?_
    (obtain ⟨a, da, o, od, t, hsh, x', n, rfl, g1, g2, rfl, rfl, a', vs, n', rfl, g3, rl⟩ := r1) <;> refine z_ ?_ <;> clear z_
    have hx := x1.sub _ _ g1
    have hd := x1.sub _ _ g2
    have B1 := hB.keeps x1.keep
    have I : InstAt s1.heap a (instObj c' da) c' (some (dictOf [⟨hsh, .str fldName t, .ref a'⟩] n)) := ⟨hx, rfl, rfl, hd⟩
    have hl : lookIn fldName (dictOf [⟨hsh, .str fldName t, .ref a'⟩] n) = some (some (.ref a')) := by rw [lookIn_dict]; simp [getL, Value.isStr]
    exact get_value B1.ins I (plainGet_of H.get).1 (findObj_own H.dict H.attr rfl hl) rfl ⟨G1, x1.trans (ExtE.toks x1.sub), by simp only [Rep]; exact ⟨_, vs, n', rfl, g3, rl⟩⟩
/- a method of an instance -/
theorem snd_inst {o : Expr} {name : Str} {apos pos : Pos} {es : List Expr} {x : X} {xs : List X} {c fI f : Addr} (pl : Env → Sem Bool) (H : ClsOk U.K c fI) (hf : findIn U.K (.ref c) name = some (some (.ref f))) (hfn : isFn U.K (.ref f) = true) (hnm : name ≠ fldName) (hc : CallOk U l f (C.Φ f)) (h : Snd U l C Z o x) (hs : SndL U l C Z es xs) (hp : allPlain es = true) (hne : es ≠ [])
    (hin : ∀ r d, ev C r x = some d → ∀ ds q, C.Φ f (d :: ds) = some q → ∃ q, d = .inst c q)
    (he : ∀ env, eval (.Call (.Attribute o name apos) es [] pos) env = (do
      let ov ← eval o env
      standAt apos.atName
      let (f, first) ← holding [ov] (getMethod ov name (pl env))
      callWith pos f first (backTo pos (starEach es env)) [])) : Snd U l C Z (.Call (.Attribute o name apos) es [] pos) (.call f (x :: xs)) := by
  intro A env s G r d hE hR hB R q
  obtain ⟨ds', j_, q⟩ := bsome q
  obtain ⟨d1, q1, k_⟩ := bsome j_
  obtain ⟨ds, q2, e⟩ := bsome k_
  cases e
  obtain ⟨q', rfl⟩ := hin r d1 q1 ds d q
  obtain ⟨hkp, hc⟩ := hc
  obtain ⟨e0, es0, rfl⟩ : ∃ e0 es0, es = e0 :: es0 := by cases es with | nil => exact absurd rfl hne | cons a b => exact ⟨a, b, rfl⟩
  have hp0 := hp
  unfold allPlain at hp0; rw [Bool.and_eq_true] at hp0
  refine MethodCall_ (pl := pl env) ((h A env s G r _ hE hR hB R q1).use fun v s1 G1 x1 r1 => ?_) (he env)
  have r1' := r1
  simp only [Rep] at r1'
  refine bC fun z_ => ?_
  (obtain ⟨a, da, ob, od, t, hsh, x', n, rfl, g1, g2, rfl, rfl, rr⟩ := r1') <;> refine z_ ?_ <;> clear z_
  have hx := x1.sub _ _ g1
  have hd := x1.sub _ _ g2
  have B1 := hB.keeps x1.keep
  have I : InstAt s1.heap a (instObj c da) c (some (dictOf [⟨hsh, .str fldName t, x'⟩] n)) := ⟨hx, rfl, rfl, hd⟩
  have hl : getL name [⟨hsh, .str fldName t, x'⟩] = some none := by
    have hb : (fldName == name) = false := beq_eq_false_iff_ne.mpr (Ne.symm hnm)
    have hb' : (name == fldName) = false := beq_eq_false_iff_ne.mpr hnm
    simp [getL, Value.isStr, hb, hb', DictEntry.refKey]
  refine method_fn B1.ins I (plainGet_of H.get).1 (plainGet_of H.get).2 hf (beq_iff_eq.mp hfn) (by show (lookIn name (dictOf _ n)).map _ = _; rw [lookIn_dict, hl]; rfl) ?_
  refine callWith_K B1.ins hkp (more_args hs hE hR B1 (R.ext x1) q2 fun vs s2 G2 x2 r2 => ⟨(B1.keeps x2.keep).ins, ?_⟩) (starEach_plain hp0.1) (plain_any hp0.2)
  exact OkV.pre (x1.trans x2) (hc A s2 G2 _ _ d hR (B1.keeps x2.keep) x2.sub ((R.ext x1).ext x2).gt (RepL.cons (r1.mono x2.le) r2) q)
end
end Mine
end

/- part EM -/
section
open PySem PySem.W PyProof.Rows PySem.Calls PySem.Spec PyProof.V PySem.Builtin PySem.Builtin.Str
set_option maxRecDepth 10000
namespace Mine
theorem compTurn_in (elt tg iter tg' iter' : Expr) (scope : Scope) (pos : Pos) (it acc : Value) (env : Env) :
    compTurn (.ListComp elt [⟨tg, iter, [], 0⟩, ⟨tg', iter', [], 0⟩] scope pos) 1 it acc env = (standAt iter'.pos >>= fun _ => pyNext it >>= fun r => match r with
      | none => pure (.done .next)
      | some v => letOwnedTupleGo tg' it v >>= fun _ => assign tg' env v >>= fun _ =>
        (eval elt env >>= fun x => call (.builtin "list.append") [acc, x] >>= fun _ => pure ()) >>= fun _ =>
          again (.compLoop (.ListComp elt [⟨tg, iter, [], 0⟩, ⟨tg', iter', [], 0⟩] scope pos) 1 it acc env)) := by rfl
theorem compTurn_out (elt tg iter tg' iter' : Expr) (scope : Scope) (pos : Pos) (it acc : Value) (env : Env) :
    compTurn (.ListComp elt [⟨tg, iter, [], 0⟩, ⟨tg', iter', [], 0⟩] scope pos) 0 it acc env = (standAt iter.pos >>= fun _ => pyNext it >>= fun r => match r with
      | none => pure (.done .next)
      | some v => letOwnedTupleGo tg it v >>= fun _ => assign tg env v >>= fun _ =>
        eval iter' env >>= fun x => standAt iter'.pos >>= fun _ => foldedSetIterable iter' env x >>= fun x => holding [x] (pyIter x) >>= fun i => runOwn (.compStart (.ListComp elt [⟨tg, iter, [], 0⟩, ⟨tg', iter', [], 0⟩] scope pos) 1 i acc env) env >>= fun _ =>
          again (.compLoop (.ListComp elt [⟨tg, iter, [], 0⟩, ⟨tg', iter', [], 0⟩] scope pos) 0 it acc env)) := by rfl
section
variable {prog : Program} {w : World} {A : Around} {R : Result → Shared → Prop} {s : Shared}
theorem codeAny_compLoop_in {elt tg iter tg' iter' : Expr} {scope : Scope} {pos : Pos} {it acc : Value} {env : Env} (I : Nat → Shared → Prop)
    (turn : ∀ n s, I n s → wpAny (model prog w) A (pyNext it) (fun r s₁ => match r with
      | none => R (.ok .next) s₁
      | some v => wpAny (model prog w) A (assign tg' env v) (fun _ s₂ => wpAny (model prog w) A (eval elt env) (fun x s₃ =>
          wpAny (model prog w) A (call (.builtin "list.append") [acc, x]) (fun _ s₄ => ∃ m, m < n ∧ I m s₄) (fun _ _ => False) s₃)
          (fun _ _ => False) s₂) (fun _ _ => False) s₁) (fun _ _ => False) s)
    (n : Nat) (h : I n s) (ht : ∀ v, letOwnedTupleGo tg' it v = pure () := by intro _; rfl) :
    codeAny (model prog w) A (.compLoop (.ListComp elt [⟨tg, iter, [], 0⟩, ⟨tg', iter', [], 0⟩] scope pos) 1 it acc env) R s := by
  refine codeAny_loop rfl I (fun n s hI => ?_) n h
  show wpAny _ _ ((compTurn (.ListComp elt [⟨tg, iter, [], 0⟩, ⟨tg', iter', [], 0⟩] scope pos) 1 it acc env).onRaise (fun x => do noteFrame x env; theTreesLotGoes x)) _ _ s
  refine wpAny_noted ?_
  rw [compTurn_in]
  refine wpAny_bind (wpAny_standAt (wpAny_bind (wpAny_mono (turn n s hI) (fun r s₁ h₁ => ?_) fun _ _ h' => h'.elim)))
  cases r with
  | none => exact wpAny_pure h₁
  | some v =>
    refine wpAny_bind (wpAny_of_eq (ht v) ?_)
    exact wpAny_bind (wpAny_mono h₁ (fun _ s₂ h₂ => wpAny_bind (wpAny_bind (wpAny_mono h₂ (fun x s₃ h₃ => wpAny_bind (wpAny_mono h₃
      (fun _ s₄ h₄ => wpAny_pure (wpAny_pure ⟨rfl, h₄⟩)) fun _ _ h' => h'.elim)) fun _ _ h' => h'.elim))) fun _ _ h' => h'.elim)
theorem codeAny_compStart_in {elt tg iter tg' iter' : Expr} {scope : Scope} {pos : Pos} {it acc : Value} {env : Env}
    (h0 : codeAny (model prog w) A (.compLoop (.ListComp elt [⟨tg, iter, [], 0⟩, ⟨tg', iter', [], 0⟩] scope pos) 1 it acc env) R s)
    (h : wpAny (model prog w) A (pyIter it) (fun it' s' => codeAny (model prog w) A (.compLoop (.ListComp elt [⟨tg, iter, [], 0⟩, ⟨tg', iter', [], 0⟩] scope pos) 1 it' acc env) R s')
      (notedBy (model prog w) A env fun x s' => R (.error x) s') s) :
    codeAny (model prog w) A (.compStart (.ListComp elt [⟨tg, iter, [], 0⟩, ⟨tg', iter', [], 0⟩] scope pos) 1 it acc env) R s := by
  refine codeAny_of_tree ?_
  show wpAny _ _ ((compStart (.ListComp elt [⟨tg, iter, [], 0⟩, ⟨tg', iter', [], 0⟩] scope pos) 1 it acc env).onRaise (fun x => do noteFrame x env; standAt theWindowsPlace)) _ _ s
  refine wpAny_notedAt ?_
  unfold compStart
  show wpAny _ _ (ask >>= _) _ _ s
  refine wpAny_bind (wpAny_askSetting (wpAny_ite ?_))
  split
  · first
      | exact wpAny_bind (wpAny_pure (wpAny_pure (And.intro rfl h0)))
      | exact wpAny_pure (And.intro rfl h0)
  · first
      | exact wpAny_bind (wpAny_rule (wpAny_bind (wpAny_standAt (wpAny_bind (wpAny_mono h (fun it' s' h' => wpAny_pure (And.intro rfl h')) fun _ _ x => x)))))
      | (refine wpAny_bind (wpAny_rule ?_); show wpAny _ _ (standAt iter'.pos >>= _) _ _ s; exact wpAny_bind (wpAny_standAt (wpAny_bind (wpAny_mono h (fun it' s' h' => wpAny_pure (And.intro rfl h')) fun _ _ x => x))))
theorem codeAny_compLoop_out {elt tg iter tg' iter' : Expr} {scope : Scope} {pos : Pos} {it acc : Value} {env : Env} (I : Nat → Shared → Prop)
    (turn : ∀ n s, I n s → wpAny (model prog w) A (pyNext it) (fun r s₁ => match r with
      | none => R (.ok .next) s₁
      | some v => wpAny (model prog w) A (assign tg env v) (fun _ s₂ => wpAny (model prog w) A (eval iter' env) (fun x s₃ =>
          wpAny (model prog w) A (pyIter x) (fun i s₄ => codeAny (model prog w) (A.mark .none) (.compStart (.ListComp elt [⟨tg, iter, [], 0⟩, ⟨tg', iter', [], 0⟩] scope pos) 1 i acc env) (fun r s₅ => r = .ok .next ∧ ∃ m, m < n ∧ I m s₅) s₄) (fun _ _ => False) s₃)
          (fun _ _ => False) s₂) (fun _ _ => False) s₁) (fun _ _ => False) s)
    (n : Nat) (h : I n s) (hs : ∀ x, foldedSetIterable iter' env x = pure x) (ht : ∀ v, letOwnedTupleGo tg it v = pure () := by intro _; rfl) :
    codeAny (model prog w) A (.compLoop (.ListComp elt [⟨tg, iter, [], 0⟩, ⟨tg', iter', [], 0⟩] scope pos) 0 it acc env) R s := by
  refine codeAny_loop rfl I (fun n s hI => ?_) n h
  show wpAny _ _ ((compTurn (.ListComp elt [⟨tg, iter, [], 0⟩, ⟨tg', iter', [], 0⟩] scope pos) 0 it acc env).onRaise (fun x => do noteFrame x env; theTreesLotGoes x)) _ _ s
  refine wpAny_noted ?_
  rw [compTurn_out]
  refine wpAny_bind (wpAny_standAt (wpAny_bind (wpAny_mono (turn n s hI) (fun r s₁ h₁ => ?_) fun _ _ h' => h'.elim)))
  cases r with
  | none => exact wpAny_pure h₁
  | some v =>
    refine wpAny_bind (wpAny_of_eq (ht v) ?_)
    refine wpAny_bind (wpAny_mono h₁ (fun _ s₂ h₂ => wpAny_bind (wpAny_mono h₂ (fun x s₃ h₃ => ?_) fun _ _ h' => h'.elim)) fun _ _ h' => h'.elim)
    refine wpAny_bind (wpAny_standAt (wpAny_bind (wpAny_of_eq (hs x) (wpAny_bind (wpAny_holding (wpAny_mono h₃ (fun i s₄ h₄ => ?_) fun _ _ h' => h'.elim))))))
    refine wpAny_bind (wpAny_runOwn (codeAny_mono h₄ fun r s' h' => ?_))
    obtain ⟨rfl, h'⟩ := h'
    exact wpAny_pure ⟨rfl, h'⟩
end
theorem mark_none (A : Around) : A.mark .none = A := rfl
section
variable {U : U0} {l : Nat} {C : Cx} {Z : Zz}
inductive CMI (s s₀ : Shared) (G G₀ G₂ : PH) (ds q qd : List D) (F : List D → Option (List D)) (St : Nat → Heap → Prop) (Dl L : Addr) (wr : List Addr) (x' : Str) (m₀ : Str → Option Value) (k : Nat) (s' : Shared) : Prop
  | mk (i : Nat) (G' : PH) (m : Str → Option Value) (ys : Array Value) (n : Nat) (qi qr : List D) (h1 : i ≤ ds.length) (h2 : k = ds.length + 1 - i) (h3 : ExtE s s' G G') (h4 : G₂.le G') (h5 : St i s'.heap) (h6 : s'.heap.get? Dl = some (lstO ys n)) (h7 : s'.heap.Ns L m)
      (h8 : RepL G' qi ys.toList) (h9 : F (ds.drop i) = some qr) (h10 : qd ++ q = qi ++ qr) (h11 : ∀ b, (s₀.heap.get? b).isSome = true → G' b = G₀ b) (h12 : ∀ b ∈ wr, G' b = .none) (h13 : ys.size ≤ qd.length + i)
      (h14 : ∀ b o, b ≠ tabP → b ≠ Dl → b ≠ L → s₀.heap.get? b = some o → s'.heap.get? b = some o) (h15 : ∀ z, z ≠ x' → m z = m₀ z) : CMI s s₀ G G₀ G₂ ds q qd F St Dl L wr x' m₀ k s'
set_option maxHeartbeats 1000000 in
theorem inner_block {elt tg iter iter' : Expr} {x' : Str} {px : Pos} {scope : Scope} {pos : Pos} {t' : Nat} {caps : List Nat} {y : X} {A : Around} {env : Env} {s s₀ s₂ : Shared} {G G₀ G₂ : PH} {r r₁ : Rho} {it : Value} {ds q qd : List D} {Dl L : Addr} {m₀ : Str → Option Value} {ys₀ : Array Value} {n₀ : Nat} {R : Result → Shared → Prop}
    (H : BlkOk scope Z.sc Z.tbl caps) (ht : Z.tbl[t']? = some x') (hx : scope.names.lookup x' = some .local) (hy : Snd U l C (blkZ scope Z) elt y)
    (hE : EnvOk Z env) (hR : Room A l) (hB : U.Base s.heap) (R0 : SRel Z env r G s.heap)
    (x₀ : ExtE s s₀ G G₀) (x₂ : ExtE s₀ s₂ G₀ G₂) (hI : ItW U.prog U.w A it ds s₀ s₂ G₂)
    (hDL : Dl ≠ L) (hDs : s.heap.get? Dl = .none) (hLs : s.heap.get? L = .none) (hGD : G₀ Dl = .none) (hGL : G₀ L = .none)
    (hD : s₀.heap.get? Dl = some (lstO ys₀ n₀)) (hqd : RepL G₀ qd ys₀.toList) (hN : s₀.heap.Ns L m₀)
    (hr₁ : ∀ i b d, r₁ i = some (b, d) → r.block caps i = some (b, d) ∨ (b = false ∧ ∃ y v, y ≠ x' ∧ Z.tbl[i]? = some y ∧ scope.names.lookup y = some .local ∧ m₀ y = some v ∧ Rep G₀ d v))
    (hl : qd.length + ds.length ≤ big)
    (hq : filtM (fun d' => do let z ← ev C (r₁.set t' d') y; some (some z)) ds = some q)
    (hRR : ∀ s' G' ys n m, ExtE s s' G G' → G₀.le G' → (∀ b o, b ≠ tabP → b ≠ Dl → b ≠ L → s₀.heap.get? b = some o → s'.heap.get? b = some o) → (∀ b, (s₀.heap.get? b).isSome = true → G' b = G₀ b) →
      s'.heap.get? Dl = some (lstO ys n) → RepL G' (qd ++ q) ys.toList → s'.heap.Ns L m → R (.ok .next) s') :
    codeAny (model U.prog U.w) A (.compStart (.ListComp elt [⟨tg, iter, [], 0⟩, ⟨.Name x' px, iter', [], 0⟩] scope pos) 1 it (.ref Dl) (compEnvC scope (clOf env.cells scope.names []) L env)) R s₂ := by
  refine bC fun z_ => ?_
  (obtain ⟨I, fp, wr, P, St, rfl, W, hst, hfp, hwr, hfw, hP, hex⟩ := hI) <;> refine z_ ?_ <;> clear z_
  have hDo : (s₀.heap.get? Dl).isSome = true := by rw [hD]; rfl
  have hLo : (s₀.heap.get? L).isSome = true := by obtain ⟨o, _, _, ho, _⟩ := hN; rw [ho]; rfl
  have hG2D : G₂ Dl = .none := by rw [x₂.old _ hDo]; exact hGD
  have hG2L : G₂ L = .none := by rw [x₂.old _ hLo]; exact hGL
  have hDw : Dl ∉ wr := fun h => by rw [(hwr _ h).1] at hDo; cases hDo
  have hLw : L ∉ wr := fun h => by rw [(hwr _ h).1] at hLo; cases hLo
  have hDf : Dl ∉ fp := fun h => by
    rcases hfw _ h with h | ⟨o, h⟩
    · exact hDw h
    · rw [hG2D] at h; cases h
  have hLf : L ∉ fp := fun h => by
    rcases hfw _ h with h | ⟨o, h⟩
    · exact hLw h
    · rw [hG2L] at h; cases h
  have nD : Dl ≠ tabP := hB.np hDs
  have nL : L ≠ tabP := hB.np hLs
  have nF : ∀ b ∈ fp, b ≠ tabP := fun b hb => by
    rcases hfw b hb with h | ⟨o, h⟩
    · exact hB.np (x₀.keep.dead (hwr b h).1)
    · intro q; rw [q, ((R0.ext x₀).ext x₂).gt] at h; cases h
  have hbig : big = 1000000 := rfl
  have hsl := sizeLine_eq
  generalize hf : (fun d' => do let z ← ev C (r₁.set t' d') y; some (some z)) = f at hq
  have loop : ∀ s₃ : Shared, s₃ = s₂ → codeAny (model U.prog U.w) A (.compLoop (.ListComp elt [⟨tg, iter, [], 0⟩, ⟨.Name x' px, iter', [], 0⟩] scope pos) 1 (.ref I) (.ref Dl) (compEnvC scope (clOf env.cells scope.names []) L env)) R s₃ := by
    rintro s₃ rfl
    refine codeAny_compLoop_in
      (CMI s s₀ G G₀ G₂ ds q qd (filtM f) St Dl L wr x' m₀) ?_ (ds.length + 1)
      ⟨0, G₂, m₀, ys₀, n₀, qd, q, Nat.zero_le _, rfl, x₀.trans x₂, PH.le.refl _, hst, x₂.keep.kp _ _ nD hD, hN.at' (fun o e => x₂.keep.kp _ o nL e), hqd.mono x₂.le, by simpa using hq, rfl, x₂.old, fun b hb => (hwr b hb).2, by have := hqd.length; rw [Array.length_toList] at this; omega, fun b o n _ _ e => x₂.keep.kp b o n e, fun _ _ => rfl⟩
    intro k s' h1_
    refine bC fun z_ => ?_
    (obtain ⟨i, G', m, ys, n, qi, qr, hi, rfl, x', le', hst', hD', hN', rd, hqr, hqq, gold, gw, hys, kp, hm⟩ := h1_) <;> refine z_ ?_ <;> clear z_
    have gD : G' Dl = .none := by rw [gold _ hDo]; exact hGD
    have gL : G' L = .none := by rw [gold _ hLo]; exact hGL
    by_cases hlt : i < ds.length
    · refine W.item i _ _ _ hlt hst' fun v h₂ tk₂ hPv hst₂ hk₂ => ?_
      have ws : ∀ b ∈ wr, s.heap.get? b = .none := fun b hb => x₀.keep.dead (hwr b hb).1
      have x2 : ExtE s { s' with heap := h₂, toks := tk₂ } G G' := x'.step (fun b o e e' => hk₂ b o (fun hb => by rw [ws b hb] at e; cases e) e') fun a o e => hk₂ a o (fun hb => by rw [gw a hb] at e; cases e) (x'.sub _ _ e)
      refine wpAny_assign_Name (wpAny_storeName_local (env := compEnvC scope (clOf env.cells scope.names []) L env) (lookup_relabel_local hx) (hN'.at' fun o e => hk₂ _ o hLw e) (fun h₃ hn₃ hs₃ => ?_) (by simp [compEnvC, relabel, H.kind]))
      replace hs₃ : Heap.SameBut L h₂ h₃ := hs₃
      rename_i x''
      replace hn₃ : h₃.Ns L (fun z => if z = x'' then some v else m z) := hn₃
      have x3 : ExtE s { s' with heap := h₃, toks := tk₂ + 1 } G G' := x2.step (tk := tk₂ + 1) (fun b o e e' => hs₃.extBut b o (fun hb => by rw [hb, hLs] at e; cases e) e') fun a o e => hs₃.extBut a o (fun hb => by rw [hb, gL] at e; cases e) (x2.sub _ _ e)
      have hst₃ : St (i + 1) h₃ := W.frame _ _ _ hst₂ fun b hb o e => hs₃.extBut b o (fun h => hLf (h ▸ hb)) e
      have hD₃ : h₃.get? Dl = some (lstO ys n) := hs₃.extBut _ _ hDL (hk₂ _ _ hDw hD')
      obtain ⟨d, hd⟩ : ∃ d, ds[i]? = some d := ⟨_, List.getElem?_eq_getElem hlt⟩
      have rv : Rep G' d v := (hP i v d hd hPv).mono le'
      have hdrop : ds.drop i = d :: ds.drop (i + 1) := by
        rw [List.drop_eq_getElem_cons hlt]; congr 1
        rw [List.getElem?_eq_getElem hlt] at hd; exact Option.some.inj hd
      rw [hdrop] at hqr
      refine bC fun z_ => ?_
      (obtain ⟨z, qs, hz, hqs, hqe⟩ := filtM_cons hqr) <;> refine z_ ?_ <;> clear z_
      rw [← hf] at hz
      obtain ⟨z', hz1, hz2⟩ := bsome hz
      cases hz2
      have R3 : SRel (blkZ scope Z) (compEnvC scope (clOf env.cells scope.names []) L env) (r₁.set t' d) G' h₃ := by
        refine blk_more H hE R0 x3 L hn₃ fun j b d' e => ?_
        unfold Rho.set at e
        split at e
        · rename_i hj; subst hj; cases e
          exact .inr ⟨rfl, _, v, ht, hx, by simp, rv⟩
        · rcases hr₁ j b d' e with e | ⟨h1, y', v', hne, h2, h3, h4, h5⟩
          · exact .inl e
          · exact .inr ⟨h1, y', v', h2, h3, by rw [if_neg hne, hm _ hne]; exact h4, h5.mono (x₂.le.trans le')⟩
      have hEb := blk_env H hE L
      have wi : ∀ b ∈ wr, (h₃.get? b).isSome = true := hex _ _ hst₃
      refine (hy A _ _ G' _ z' hEb hR (hB.keeps x3.keep) R3 hz1).use fun v5 s5 G5 x5 r5 => ?_
      have x15 := x3.trans x5
      have hD5 : s5.heap.get? Dl = some (lstO ys n) := x5.keep.kp _ _ nD hD₃
      have up3 : ∀ b o, b ≠ tabP → b ≠ Dl → b ≠ L → s₀.heap.get? b = some o → h₃.get? b = some o := fun b o n h1 h2 e => hs₃.extBut b o h2 (hk₂ b o (fun hb => by rw [(hwr b hb).1] at e; cases e) (kp b o n h1 h2 e))
      have some3 : ∀ b, (s₀.heap.get? b).isSome = true → (h₃.get? b).isSome = true := fun b hb => by
        by_cases q1 : b = Dl
        · subst q1; rw [hD₃]; rfl
        · by_cases q2 : b = L
          · subst q2; obtain ⟨o, _, _, ho, _⟩ := hn₃; rw [ho]; rfl
          · by_cases q3 : b = tabP
            · subst q3
              exact x3.keep.live hB.tab.alive
            · obtain ⟨o, ho⟩ := Option.isSome_iff_exists.mp hb
              rw [up3 b o q3 q1 q2 ho]; rfl
      have gD5 : G5 Dl = .none := by rw [x5.old _ (some3 _ hDo)]; exact gD
      have gw5 : ∀ b ∈ wr, G5 b = .none := fun b hb => by rw [x5.old _ (wi b hb)]; exact gw b hb
      have hyl := rd.length
      refine wpAny_list_append_plain (items := ys) ⟨n, hD5⟩ (fun h₆ ⟨n', hD₆⟩ hs₆ => ?_) (by omega)
      have x16 : ExtE s { s5 with heap := h₆ } G G5 := x15.step (tk := s5.toks) (fun b o e e' => hs₆.extBut b o (fun hb => by rw [hb, hDs] at e; cases e) e') fun a o e => hs₆.extBut a o (fun hb => by rw [hb, gD5] at e; cases e) (x15.sub _ _ e)
      refine ⟨ds.length + 1 - (i + 1), by omega, i + 1, G5, _, ys.push v5, n', qi ++ [z'], qs, hlt, rfl, x16, le'.trans x5.le, ?_, hD₆, (hn₃.at' fun o e => x5.keep.kp _ o nL e).sameBut hs₆ (Ne.symm hDL), ?_, hqs, by rw [hqq, hqe]; simp, fun b hb => by rw [x5.old _ (some3 b hb)]; exact gold b hb, gw5, by rw [Array.size_push]; omega, fun b o n h1 h2 e => hs₆.extBut b o h1 (x5.keep.kp _ _ n (up3 b o n h1 h2 e)), fun z hz => by rw [if_neg hz]; exact hm z hz⟩
      · exact W.frame _ _ _ (W.frame _ _ _ hst₃ fun b hb o e => x5.keep.kp b o (nF b hb) e) fun b hb o e => hs₆.extBut b o (fun h => hDf (h ▸ hb)) e
      · rw [Array.toList_push]; exact (rd.mono x5.le).append (RepL.cons r5 RepL.nil)
    · have hin : i = ds.length := by omega
      subst hin
      rw [List.drop_length] at hqr
      have hqr := Option.some.inj hqr; subst hqr
      refine W.done _ _ _ hst' fun h₂ tk₂ hk₂ => ?_
      have ws : ∀ b ∈ wr, s.heap.get? b = .none := fun b hb => x₀.keep.dead (hwr b hb).1
      have x2 : ExtE s { s' with heap := h₂, toks := tk₂ } G G' := x'.step (fun b o e e' => hk₂ b o (fun hb => by rw [ws b hb] at e; cases e) e') fun a o e => hk₂ a o (fun hb => by rw [gw a hb] at e; cases e) (x'.sub _ _ e)
      exact hRR _ G' ys n m x2 (x₂.le.trans le') (fun b o n h1 h2 e => hk₂ b o (fun hb => by rw [(hwr b hb).1] at e; cases e) (kp b o n h1 h2 e)) gold (hk₂ _ _ hDw hD') (by rw [hqq, List.append_nil]; exact rd) (hN'.at' fun o e => hk₂ _ o hLw e)
  exact codeAny_compStart_in (loop _ rfl) (W.self 0 _ _ _ hst (loop _ rfl))
end
end Mine
end

/- part EN -/
section
open PySem PySem.W PyProof.Rows PySem.Calls PySem.Spec PyProof.V PySem.Builtin PySem.Builtin.Str
set_option maxRecDepth 10000
namespace Mine
theorem flatMM_cons {f : D → Option (List D)} {d : D} {r q : List D} (h : flatMM f (d :: r) = some q) : ∃ x ys, f d = some x ∧ flatMM f r = some ys ∧ q = x ++ ys := by
  simp only [flatMM, Option.bind_eq_bind, Option.bind_eq_some_iff] at h
  refine bC fun z_ => ?_
  (obtain ⟨x, h1, ys, h2, h3⟩ := h) <;> refine z_ ?_ <;> clear z_
  cases h3
  exact ⟨x, ys, h1, h2, rfl⟩
theorem filtM_all {f : D → Option D} : ∀ {ds q : List D}, filtM (fun d => do let z ← f d; some (some z)) ds = some q → q.length = ds.length
  | [], q, h => by have h := Option.some.inj h; subst h; rfl
  | d :: r, q, h => by
    refine bC fun z_ => ?_
    (obtain ⟨x, ys, h1, h2, h3⟩ := filtM_cons h) <;> refine z_ ?_ <;> clear z_
    obtain ⟨z, _, h1⟩ := bsome h1
    cases h1
    subst h3
    simp only [List.length_cons, filtM_all h2]
inductive CNI (s : Shared) (G G₂ : PH) (ds q : List D) (F : List D → Option (List D)) (St : Nat → Heap → Prop) (aD aC : Addr) (wr : List Addr) (k : Nat) (s' : Shared) : Prop
  | mk (i : Nat) (G' : PH) (m : Str → Option Value) (ys : Array Value) (n : Nat) (qd qr : List D) (h1 : i ≤ ds.length) (h2 : k = ds.length + 1 - i) (h3 : ExtE s s' G G') (h4 : G₂.le G') (h5 : St i s'.heap) (h6 : s'.heap.get? aD = some (lstO ys n)) (h7 : s'.heap.Ns aC m)
      (h8 : RepL G' qd ys.toList) (h9 : F (ds.drop i) = some qr) (h10 : q = qd ++ qr) (h11 : G' aD = .none) (h12 : G' aC = .none) (h13 : ∀ b ∈ wr, G' b = .none) : CNI s G G₂ ds q F St aD aC wr k s'
section
variable {U : U0} {l : Nat} {C : Cx} {Z : Zz}
set_option maxHeartbeats 1000000 in
theorem Snd.comp2 {elt iter iter' : Expr} {x x' : Str} {px px' : Pos} {scope : Scope} {pos : Pos} {t t' : Nat} {caps : List Nat} {y : X} {it it' : I}
    (H : BlkOk scope Z.sc Z.tbl caps) (hxx : x ≠ x') (ht : Z.tbl[t]? = some x) (hx : scope.names.lookup x = some .local) (ht' : Z.tbl[t']? = some x') (hx' : scope.names.lookup x' = some .local)
    (hi : SndI U l C Z iter it) (hi' : SndI U l C (blkZ scope Z) iter' it') (hy : Snd U l C (blkZ scope Z) elt y)
    (hs : ∀ env x, foldedSetIterable iter env x = pure x) (hs' : ∀ env x, foldedSetIterable iter' env x = pure x) : Snd U l C Z (.ListComp elt [⟨.Name x px, iter, [], 0⟩, ⟨.Name x' px', iter', [], 0⟩] scope pos) (.comp2 t t' caps it it' y) := by
  intro A env s G r d hE hR hB R q
  obtain ⟨ds, e1, k_⟩ := bsome q
  obtain ⟨_, e0, k_⟩ := bsome k_
  obtain ⟨qs, e2, q⟩ := bsome k_
  obtain ⟨hl, rfl⟩ := lenOk_some q
  rw [eval_ListComp]
  refine wpAny_comprehension_free (use := Option.none) rfl (hs env) (blk_cl H hE) H.kind H.names (wpAny_mono (hi A env s G r ds hE hR hB R e1) (fun xv s₁ h₁ => wpAny_mono h₁ (fun itv s₂ h_ => ?_) fun _ _ f => f) fun _ _ f => f)
  refine bC fun z_ => ?_
  (obtain ⟨G₂, x₂, hI⟩ := h_) <;> refine z_ ?_ <;> clear z_
  have hlen : ds.length ≤ big := (lenOk_some e0).1
  refine bC fun z_ => ?_
  (obtain ⟨I, fp, wr, P, St, rfl, W, hst, hfp, hwr, hfw, hP, hex⟩ := hI) <;> refine z_ ?_ <;> clear z_
  refine wpAny_newObj_type (wpAny_newFunctionEnv H.cell (by intro y hy; simp at hy) (fun h₁ hns₁ hsb₁ => ?_) H.kind)
  dsimp only at hns₁ hsb₁ ⊢
  generalize hH2 : s₂.heap.push { cls := .type "list", dict := Option.none, data := .seq ([] : List Value).toArray } = H2 at hns₁ hsb₁ ⊢
  have hC : H2.objs.size = s₂.heap.objs.size + 1 := by rw [← hH2, Heap.size_push]
  have hDC : s₂.heap.objs.size ≠ H2.objs.size := by rw [hC]; exact Nat.ne_of_lt (Nat.lt_succ_self _)
  have below : ∀ b, b < s₂.heap.objs.size → b ≠ H2.objs.size ∧ b ≠ s₂.heap.objs.size := fun b hb => ⟨by rw [hC]; exact Nat.ne_of_lt (Nat.lt_succ_of_lt hb), Nat.ne_of_lt hb⟩
  have hDf : s₂.heap.objs.size ∉ fp := fun hm => Nat.lt_irrefl _ (hfp _ hm)
  have hCf : H2.objs.size ∉ fp := fun hm => by have := hfp _ hm; rw [hC] at this; exact Nat.lt_irrefl _ (Nat.lt_of_succ_lt this)
  have old : ∀ b o, s₂.heap.get? b = some o → h₁.get? b = some o := fun b o e => hsb₁.extBut b o (below b (Heap.lt_size e)).1 (Heap.get?_push_of_some _ (hH2 ▸ Heap.get?_push_of_some _ e))
  have hacc : h₁.get? s₂.heap.objs.size = some (lstO #[] 0) := hsb₁.extBut _ _ hDC (Heap.get?_push_of_some _ (hH2 ▸ Heap.get?_push_size _ rfl))
  have hst₁ : St 0 h₁ := W.frame _ _ _ hst fun b _ o e => old b o e
  have fr₂ : ∀ a, s₂.heap.objs.size ≤ a → s₂.heap.get? a = Option.none := fun a ha => fresh_none ha
  have fr : ∀ a, s₂.heap.objs.size ≤ a → s.heap.get? a = Option.none := fun a ha => x₂.keep.dead (fr₂ a ha)
  have hD0 := fr _ (Nat.le_refl _)
  have hC0 := fr H2.objs.size (by rw [hC]; exact Nat.le_succ _)
  have nF : ∀ b ∈ fp, b ≠ tabP := fun b hb => by
    rcases hfw b hb with h | ⟨o, h⟩
    · exact hB.np (hwr b h).1
    · intro q; rw [q, (R.ext x₂).gt] at h; cases h
  have hGD : G₂ s₂.heap.objs.size = Option.none := PH.fresh x₂.sub (fr₂ _ (Nat.le_refl _))
  have hGC : G₂ H2.objs.size = Option.none := PH.fresh x₂.sub (fr₂ _ (by rw [hC]; exact Nat.le_succ _))
  have x₁ : ExtE s { s₂ with heap := h₁, toks := s₂.toks + ([] : List (Str × Value)).length } G G₂ := x₂.step (fun b o _ e => old b o e) fun a o e => old _ _ (x₂.sub _ _ e)
  have hCw : H2.objs.size ∉ wr := fun h => hCf (W.sub _ h)
  have hDw : s₂.heap.objs.size ∉ wr := fun h => hDf (W.sub _ h)
  have hbig : big = 1000000 := rfl
  have hsl := sizeLine_eq
  generalize hf : (fun d => (evI C ((r.block caps).set t d) it').bind fun l' => filtM (fun d' => (ev C (((r.block caps).set t d).set t' d') y).bind fun z => some (some z)) l') = f at e2
  have loop : ∀ s₃ : Shared, s₃ = { s₂ with heap := h₁, toks := s₂.toks + ([] : List (Str × Value)).length } →
      codeAny (model U.prog U.w) A (.compLoop (.ListComp elt [⟨.Name x px, iter, [], 0⟩, ⟨.Name x' px', iter', [], 0⟩] scope pos) 0 (.ref I) (.ref s₂.heap.objs.size) (compEnvC scope (clOf env.cells scope.names []) H2.objs.size env))
        (compPost (model U.prog U.w) A (fun _ _ => False) Option.none (fun v s' => ∃ G', ExtE s s' G G' ∧ Rep G' (.list qs) v) (.ref s₂.heap.objs.size) H2.objs.size) s₃ := by
    rintro s₃ rfl
    refine codeAny_compLoop_out
      (CNI s G G₂ ds qs (flatMM f) St s₂.heap.objs.size H2.objs.size wr) ?_ (ds.length + 1)
      ⟨0, G₂, _, #[], 0, [], qs, Nat.zero_le _, rfl, x₁, PH.le.refl _, hst₁, hacc, hns₁, RepL.nil, by simpa using e2, rfl, hGD, hGC, fun b hb => (hwr b hb).2⟩ (hs' _)
    intro k s' h1_
    refine bC fun z_ => ?_
    (obtain ⟨i, G', m, ys, n, qd, qr, hi, rfl, xx, le', hst', hD', hN', rd, hqr, hqq, gD, gC, gw⟩ := h1_) <;> refine z_ ?_ <;> clear z_
    by_cases hlt : i < ds.length
    · refine W.item i _ _ _ hlt hst' fun v h₂ tk₂ hPv hst₂ hk₂ => ?_
      have x2 : ExtE s { s' with heap := h₂, toks := tk₂ } G G' := xx.step (fun b o e e' => hk₂ b o (fun hb => by rw [(hwr b hb).1] at e; cases e) e') fun a o e => hk₂ a o (fun hb => by rw [gw a hb] at e; cases e) (xx.sub _ _ e)
      refine wpAny_assign_Name (wpAny_storeName_local (env := compEnvC scope (clOf env.cells scope.names []) H2.objs.size env) (lookup_relabel_local hx) (hN'.at' fun o e => hk₂ _ o hCw e) (fun h₃ hn₃ hs₃ => ?_) (by simp [compEnvC, relabel, H.kind]))
      replace hs₃ : Heap.SameBut H2.objs.size h₂ h₃ := hs₃
      replace hn₃ : h₃.Ns H2.objs.size (fun z => if z = x then some v else m z) := hn₃
      have x3 : ExtE s { s' with heap := h₃, toks := tk₂ + 1 } G G' := x2.step (tk := tk₂ + 1) (fun b o e e' => hs₃.extBut b o (fun hb => by rw [hb, hC0] at e; cases e) e') fun a o e => hs₃.extBut a o (fun hb => by rw [hb, gC] at e; cases e) (x2.sub _ _ e)
      have hst₃ : St (i + 1) h₃ := W.frame _ _ _ hst₂ fun b hb o e => hs₃.extBut b o (fun h => hCf (h ▸ hb)) e
      have hD₃ : h₃.get? s₂.heap.objs.size = some (lstO ys n) := hs₃.extBut _ _ hDC (hk₂ _ _ hDw hD')
      obtain ⟨d, hd⟩ : ∃ d, ds[i]? = some d := ⟨_, List.getElem?_eq_getElem hlt⟩
      have rv : Rep G' d v := (hP i v d hd hPv).mono le'
      have hdrop : ds.drop i = d :: ds.drop (i + 1) := by
        rw [List.drop_eq_getElem_cons hlt]; congr 1
        rw [List.getElem?_eq_getElem hlt] at hd; exact Option.some.inj hd
      rw [hdrop] at hqr
      refine bC fun z_ => ?_
      (obtain ⟨z, zs, hz, hqs, hqe⟩ := flatMM_cons hqr) <;> refine z_ ?_ <;> clear z_
      rw [← hf] at hz
      obtain ⟨l', hl', hz⟩ := bsome hz
      have R3 : SRel (blkZ scope Z) (compEnvC scope (clOf env.cells scope.names []) H2.objs.size env) ((r.block caps).set t d) G' h₃ := by
        refine blk_more H hE R x3 H2.objs.size hn₃ fun j b d' e => ?_
        unfold Rho.set at e
        split at e
        · rename_i hj; subst hj; cases e
          exact .inr ⟨rfl, x, v, ht, hx, by simp, rv⟩
        · exact .inl e
      have hEb := blk_env H hE H2.objs.size
      have wi : ∀ b ∈ wr, (h₃.get? b).isSome = true := hex _ _ hst₃
      have hDo : (h₃.get? s₂.heap.objs.size).isSome = true := by rw [hD₃]; rfl
      have hCo : (h₃.get? H2.objs.size).isSome = true := by obtain ⟨o, _, _, ho, _⟩ := hn₃; rw [ho]; rfl
      have hzl : z.length = l'.length := filtM_all hz
      have hql : qd.length + z.length ≤ big := by
        have : qs.length = qd.length + (z.length + zs.length) := by rw [hqq, hqe, List.length_append, List.length_append]
        omega
      refine wpAny_mono (hi' A _ _ G' _ l' hEb hR (hB.keeps x3.keep) R3 hl') (fun xv s4 h4 => wpAny_mono h4 (fun iv s5 h_ => ?_) fun _ _ f => f) fun _ _ f => f
      refine bC fun z_ => ?_
      (obtain ⟨G5, x5, hI5⟩ := h_) <;> refine z_ ?_ <;> clear z_
      rw [mark_none]
      refine inner_block (s := s) (G := G) (r := r) (r₁ := (r.block caps).set t d) H ht' hx' hy hE hR hB R x3 x5 hI5 hDC hD0 hC0 gD gC hD₃ rd hn₃ (fun j b d' e => ?_) (by omega) (q := z) hz ?_
      · unfold Rho.set at e
        split at e
        · rename_i hj; subst hj; cases e
          exact .inr ⟨rfl, x, v, hxx, ht, hx, by simp, rv⟩
        · exact .inl e
      · intro s6 G6 ys6 n6 m6 x6 le6 kp6 gold6 hD6 hR6 hN6
        refine ⟨rfl, ds.length + 1 - (i + 1), by omega, i + 1, G6, m6, ys6, n6, qd ++ z, zs, hlt, rfl, x6, le'.trans le6, W.frame _ _ _ hst₃ fun b hb o e => kp6 b o (nF b hb) (fun h => hDf (h ▸ hb)) (fun h => hCf (h ▸ hb)) e, hD6, hN6, hR6, hqs, by rw [hqq, hqe, List.append_assoc], by rw [gold6 _ hDo]; exact gD, by rw [gold6 _ hCo]; exact gC, fun b hb => by rw [gold6 _ (wi b hb)]; exact gw b hb⟩
    · have hin : i = ds.length := by omega
      subst hin
      rw [List.drop_length] at hqr
      simp only [flatMM, Option.some.injEq] at hqr; subst hqr
      refine W.done _ _ _ hst' fun h₂ tk₂ hk₂ => ?_
      have x2 : ExtE s { s' with heap := h₂, toks := tk₂ } G G' := xx.step (fun b o e e' => hk₂ b o (fun hb => by rw [(hwr b hb).1] at e; cases e) e') fun a o e => hk₂ a o (fun hb => by rw [gw a hb] at e; cases e) (xx.sub _ _ e)
      refine ⟨m, hN'.at' fun o e => hk₂ _ o hCw e, fun h'' hs'' => ?_⟩
      have x22 : ExtE s { s' with heap := h'', toks := tk₂ } G G' := x2.step (tk := tk₂) (fun b o e e' => hs''.extBut b o (fun hb => by rw [hb, hC0] at e; cases e) e') fun a o e => hs''.extBut a o (fun hb => by rw [hb, gC] at e; cases e) (x2.sub _ _ e)
      refine ⟨_, x22.keepNew hD0 gD (hs''.extBut _ _ hDC (hk₂ _ _ hDw hD')), ?_⟩
      simp only [Rep]
      exact ⟨_, _, _, rfl, PH.put_self _ _ _, by rw [hqq, List.append_nil]; exact rd.mono (PH.le_put gD)⟩
  exact codeAny_compStart_list (loop _ rfl) (W.self 0 _ _ _ hst₁ (loop _ rfl))
end
end Mine
end

/- part EO -/
section
open PySem PySem.W PyProof.Rows PySem.Calls PySem.Spec PyProof.V PySem.Builtin PySem.Builtin.Str
set_option maxRecDepth 10000
namespace Mine
/- an iterator that hands out tuples, all kept by the list S -/
structure TG (prog : Program) (w : World) (T : String) (I : Addr) (wr : List Addr) (n : Nat) (S : Addr) (Pt : Nat → Array Value → Prop) (St : Nat → Heap → Prop) : Prop where
  nl : (Value.type T == Value.type "list") = false
  nt : (Value.type T == Value.type "tuple") = false
  len : typeLookup (.type T) "__len__" = pure none
  hint : typeLookup (.type T) "__length_hint__" = pure none
  type : ∀ i (s : Shared), St i s.heap → s.TypeIs (.ref I) T
  here : ∀ i h, St i h → ∀ b ∈ wr, (h.get? b).isSome = true
  frame : ∀ i h h', St i h → (∀ b o, b ≠ S → h.get? b = some o → h'.get? b = some o) → St i h'
  self : ∀ (A : Around) i (s : Shared) (Q : Value → Shared → Prop) (E : Value → Shared → Prop), A.handled = none → St i s.heap → Q (.ref I) s → wpAny (model prog w) A (pyIter (.ref I)) Q E s
  item : ∀ (A : Around) i (s : Shared) (Q : Option Value → Shared → Prop) (E : Value → Shared → Prop), A.handled = none → i < n → St i s.heap → (s.heap.get? S).isSome = true →
    (∀ vals h' tk, Pt i vals → h'.get? s.heap.objs.size = some (tupO vals 0) → St (i + 1) h' → (∀ b o, b ∉ wr → s.heap.get? b = some o → h'.get? b = some o) → Q (some (.ref s.heap.objs.size)) { s with heap := h', toks := tk }) → wpAny (model prog w) A (pyNext (.ref I)) Q E s
  done : ∀ (A : Around) (s : Shared) (Q : Option Value → Shared → Prop) (E : Value → Shared → Prop), A.handled = none → St n s.heap →
    (∀ h' tk, (∀ b o, b ∉ wr → s.heap.get? b = some o → h'.get? b = some o) → Q none { s with heap := h', toks := tk }) → wpAny (model prog w) A (pyNext (.ref I)) Q E s
section
variable {prog : Program} {w : World} {A : Around} {R : Result → Shared → Prop} {T : String} {I S : Addr} {wr : List Addr} {n : Nat} {Pt : Nat → Array Value → Prop} {St : Nat → Heap → Prop}
theorem tg_loop (W : TG prog w T I wr n S Pt St) (hh : A.handled = none) (hSw : S ∉ wr) (hn : n ≤ sizeLine) (res : Value) {s₀ : Shared} {G₀ G₁ : PH} {ds : List D} (hds : ds.length = n)
    (hP : ∀ i vals d, ds[i]? = some d → Pt i vals → ∃ ls, d = .tup ls ∧ RepL G₁ ls vals.toList) (hw₀ : ∀ b ∈ wr, s₀.heap.get? b = none) (hS₀ : s₀.heap.get? S = none)
    (hR : ∀ s' G' acc c, ExtE s₀ s' G₀ G' → G' S = none → s'.heap.get? S = some (lstO acc c) → RepL G' ds acc.toList → R (.ok (.ret res)) s') :
    ∀ (k i : Nat) (s : Shared) (G' : PH) (acc : Array Value) (c : Nat), n - i = k → i ≤ n → ExtE s₀ s G₀ G' → G₁.le G' → G' S = none → (∀ b ∈ wr, G' b = none) → St i s.heap → s.heap.get? S = some (lstO acc c) → RepL G' (ds.take i) acc.toList →
      codeAny (model prog w) A (.builtin "list.extend.loop" ⟨[.ref S, .ref I, res], []⟩) R s := by
  intro k
  induction k with
  | zero =>
    intro i s G' acc c hk hi x le gS gw hst hS rd
    have hin : i = n := by omega
    subst hin
    refine codeAny_builtin PySem.F.entry_extend_loop ?_
    rw [Around.under_plainId PySem.F.plain_extend_loop _]
    show wpAny _ A.in1 (pyNext (.ref I) >>= _) _ _ _
    refine wpAny_bind (W.done A.in1 s _ _ hh hst fun h' tk hk' => ?_)
    refine wpAny_pure (hR _ G' acc c (x.step (fun b o e e' => hk' b o (fun hb => by rw [hw₀ b hb] at e; cases e) e') fun a o e => hk' a o (fun hb => by rw [gw a hb] at e; cases e) (x.sub _ _ e)) gS (hk' _ _ hSw hS) ?_)
    rwa [List.take_of_length_le (by omega)] at rd
  | succ k ih =>
    intro i s G' acc c hk hi x le gS gw hst hS rd
    have hlt : i < n := by omega
    have hz : acc.size = i := by have := rd.length; rw [Array.length_toList, List.length_take] at this; omega
    refine codeAny_builtin PySem.F.entry_extend_loop ?_
    rw [Around.under_plainId PySem.F.plain_extend_loop _]
    show wpAny _ A.in1 (pyNext (.ref I) >>= _) _ _ _
    refine wpAny_bind (W.item A.in1 i s _ _ hh hlt hst (by rw [hS]; rfl) fun vals h' tk hPt ht hst' hk' => ?_)
    have x1 : ExtE s₀ { s with heap := h', toks := tk } G₀ G' := x.step (fun b o e e' => hk' b o (fun hb => by rw [hw₀ b hb] at e; cases e) e') fun a o e => hk' a o (fun hb => by rw [gw a hb] at e; cases e) (x.sub _ _ e)
    have hS' : h'.get? S = some (lstO acc c) := hk' _ _ hSw hS
    have hSl : S < s.heap.objs.size := Heap.lt_size hS
    have gT : G' s.heap.objs.size = none := PH.fresh x.sub (fresh_none (Nat.le_refl _))
    have h0T : s₀.heap.get? s.heap.objs.size = none := old_none x (fresh_none (Nat.le_refl _))
    have hTw : s.heap.objs.size ∉ wr := fun hb => by
      obtain ⟨o, ho⟩ := Option.isSome_iff_exists.mp (W.here _ _ hst _ hb)
      exact Nat.lt_irrefl _ (Heap.lt_size ho)
    obtain ⟨d, hd⟩ : ∃ d, ds[i]? = some d := ⟨_, List.getElem?_eq_getElem (by omega)⟩
    refine bC fun z_ => ?_
    (obtain ⟨ls, rfl, rl⟩ := hP i vals d hd hPt) <;> refine z_ ?_ <;> clear z_
    have x2 := x1.keepNew h0T gT ht
    show wpAny _ A.in1 (updateSeq S (·.push (Value.ref s.heap.objs.size)) >>= _) _ _ _
    refine wpAny_bind ?_
    have up : ∀ b o, b ≠ S → h'.get? b = some o → (h'.update S (Obj.mapSeq (·.push (Value.ref s.heap.objs.size)))).get? b = some o := fun b o hb e => (Heap.get?_update_other _ _ (Ne.symm hb)).trans e
    have gS2 : (G'.put s.heap.objs.size (tupO vals 0)) S = none := by simp only [PH.put]; rw [if_neg (Nat.ne_of_lt hSl)]; exact gS
    refine wpAny_updateSeq hS' rfl (wpAny_pure ⟨plainId_quiet PySem.F.plain_extend_loop _, ih (i + 1) _ (G'.put s.heap.objs.size (tupO vals 0)) (acc.push (Value.ref s.heap.objs.size)) _ (by omega) hlt ?_ (le.trans (PH.le_put gT)) gS2 ?_ (W.frame _ _ _ hst' up) (Heap.get?_update_self _ hS' rfl) ?_⟩) (by rw [hz]; omega) (by show (acc.push (Value.ref s.heap.objs.size)).size ≤ sizeLine + 1; rw [Array.size_push, hz]; omega)
    · exact x2.step (tk := tk) (fun b o e e' => up b o (fun hb => by rw [hb, hS₀] at e; cases e) e') fun a o e => up a o (fun hb => by rw [hb, gS2] at e; cases e) (x2.sub _ _ e)
    · intro b hb
      simp only [PH.put]
      rw [if_neg (fun q => hTw (by rw [← q]; exact hb))]
      exact gw b hb
    · rw [List.take_add_one, hd, Array.toList_push]
      refine (rd.mono (PH.le_put gT)).append (RepL.cons ?_ RepL.nil)
      simp only [Rep]
      exact ⟨_, vals, 0, rfl, PH.put_self _ _ _, rl.mono (le.trans (PH.le_put gT))⟩
theorem tg_init (W : TG prog w T I wr n S Pt St) (hh : A.handled = none) (hSw : S ∉ wr) (hSI : S ≠ I) (hn : n ≤ sizeLine) {s₀ s : Shared} {G₀ G₁ : PH} {ds : List D} (hds : ds.length = n)
    (hP : ∀ i vals d, ds[i]? = some d → Pt i vals → ∃ ls, d = .tup ls ∧ RepL G₁ ls vals.toList) (hw₀ : ∀ b ∈ wr, s₀.heap.get? b = none) (hS₀ : s₀.heap.get? S = none)
    (x : ExtE s₀ s G₀ G₁) (gS : G₁ S = none) (gw : ∀ b ∈ wr, G₁ b = none) (hst : St 0 s.heap) (hS : s.heap.get? S = some { cls := .type "list", data := .seq #[] })
    (hR : ∀ s' G' acc c, ExtE s₀ s' G₀ G' → G' S = none → s'.heap.get? S = some (lstO acc c) → RepL G' ds acc.toList → R (.ok (.ret .none)) s') :
    wpAny (model prog w) A.in1 (Builtin.«list.__init__» ⟨[.ref S, .ref I], []⟩)
      (fun fin s' => match fin with | .done f => R (.ok f) s' | .again c' => c'.quiet = true ∧ codeAny (model prog w) A c' R s') (fun e s' => R (.error e) s') s := by
  show wpAny _ _ (do let old ← Builtin.List.listItems (.ref S); Builtin.List.listUpdate (.ref S) (fun _ => #[]); letGo old.toList.reverse; Builtin.List.listExtendWith (.ref S) (.ref I) .none) _ _ s
  refine wpAny_bind ?_
  unfold Builtin.List.listItems
  refine wpAny_bind (wpAny_seqItems hS rfl (wpAny_pure ?_))
  show wpAny _ _ (updateSeq S (fun _ => #[]) >>= fun _ => letGo (#[] : Array Value).toList.reverse >>= fun _ => Builtin.List.listExtendWith (.ref S) (.ref I) .none) _ _ s
  refine wpAny_bind (wpAny_updateSeq hS rfl ?_)
  have hS₂ := Heap.get?_update_self (Obj.mapSeq (fun _ => (#[] : Array Value))) hS rfl
  have oth : ∀ b o, b ≠ S → s.heap.get? b = some o → (s.heap.update S (Obj.mapSeq (fun _ => (#[] : Array Value)))).get? b = some o :=
    fun b o hb e => (Heap.get?_update_other _ _ (Ne.symm hb)).trans e
  refine wpAny_bind (wpAny_letGo ?_)
  have hst₁ := W.frame _ _ _ hst oth
  have x1 : ExtE s₀ { s with heap := s.heap.update S (Obj.mapSeq (fun _ => (#[] : Array Value))) } G₀ G₁ := x.step (tk := s.toks) (fun b o e e' => oth b o (fun hb => by rw [hb, hS₀] at e; cases e) e') fun a o e => oth a o (fun hb => by rw [hb, gS] at e; cases e) (x.sub _ _ e)
  generalize hs1 : ({ s with heap := s.heap.update S (Obj.mapSeq (fun _ => (#[] : Array Value))) } : Shared) = s1 at *
  replace hst₁ : St 0 s1.heap := by rw [← hs1]; exact hst₁
  replace hS₂ : s1.heap.get? S = some { cls := .type "list", dict := none, data := .seq #[] 0, slots := #[] } := by rw [← hs1]; exact hS₂
  unfold Builtin.List.listExtendWith
  refine wpAny_bind (wpAny_typeOf (T := T) (W.type 0 _ hst₁) ?_)
  have h1 : Builtin.List.listSameRef (.ref S) (.ref I) = false := by simp [Builtin.List.listSameRef, hSI]
  simp only [h1, W.nl, W.nt, Bool.or_false, Bool.false_eq_true, if_false]
  refine wpAny_bind (W.self A.in1 0 _ _ _ hh hst₁ ?_)
  refine wpAny_bind (wpAny_holding ?_)
  unfold Builtin.List.listLengthHint
  refine wpAny_bind (wpAny_specialOf (W.type 0 _ hst₁) W.len ?_)
  show wpAny _ A.in1 (specialOf (Value.ref I) (Str.ofString "__length_hint__") >>= _) _ _ _
  refine wpAny_bind (wpAny_specialOf (W.type 0 _ hst₁) W.hint ?_)
  refine wpAny_pure ?_
  show wpAny _ A.in1 (rule "list.extend.makes-room" >>= fun _ => Builtin.List.listTouch (.ref S) >>= fun _ =>
    again (.builtin "list.extend.loop" ⟨[.ref S, .ref I, .none], []⟩)) _ _ _
  refine wpAny_bind (wpAny_rule ?_)
  refine wpAny_bind ?_
  show wpAny _ A.in1 (updateSeq S (·.push .none) >>= fun _ => updateSeq S (·.pop)) _ _ _
  refine wpAny_bind (wpAny_updateSeq hS₂ rfl ?_)
  have hS₃ := Heap.get?_update_self (Obj.mapSeq (·.push Value.none)) hS₂ rfl
  refine wpAny_updateSeq (hz := by seq_fits) hS₃ rfl ?_
  have hS₄ := Heap.get?_update_self (Obj.mapSeq (·.pop)) hS₃ rfl
  have oth2 : ∀ b o, b ≠ S → s1.heap.get? b = some o → ((s1.heap.update S (Obj.mapSeq (·.push Value.none))).update S (Obj.mapSeq (·.pop))).get? b = some o :=
    fun b o hb e => (Heap.get?_update_other _ _ (Ne.symm hb)).trans ((Heap.get?_update_other _ _ (Ne.symm hb)).trans e)
  refine wpAny_pure ⟨plainId_quiet PySem.F.plain_extend_loop _, tg_loop W hh hSw hn .none hds hP hw₀ hS₀ hR n 0 _ G₁ #[] _ rfl (Nat.zero_le _) ?_ (PH.le.refl _) gS gw (W.frame _ _ _ hst₁ oth2) hS₄ RepL.nil⟩
  exact x1.step (tk := s1.toks) (fun b o e e' => oth2 b o (fun hb => by rw [hb, hS₀] at e; cases e) e') fun a o e => oth2 a o (fun hb => by rw [hb, gS] at e; cases e) (x1.sub _ _ e)
end
section
variable {prog : Program} {w : World} {A : Around} {E : Value → Shared → Prop} {T : String} {I : Addr} {wr : List Addr} {n : Nat} {Pt : Nat → Array Value → Prop} {St : Nat → Heap → Prop} {s : Shared}
theorem tg_call (W : TG prog w T I wr n s.heap.objs.size Pt St) (hh : A.handled = none) (hn : n ≤ sizeLine) {s₀ : Shared} {G₀ G₁ : PH} {ds : List D} (hds : ds.length = n)
    (hP : ∀ i vals d, ds[i]? = some d → Pt i vals → ∃ ls, d = .tup ls ∧ RepL G₁ ls vals.toList) (hw₀ : ∀ b ∈ wr, s₀.heap.get? b = none)
    (x : ExtE s₀ s G₀ G₁) (gw : ∀ b ∈ wr, G₁ b = none) (hst : St 0 s.heap) :
    wpAny (model prog w) A (call (.type "list") [.ref I]) (fun v s' => ∃ G', ExtE s₀ s' G₀ G' ∧ Rep G' (.list ds) v) E s := by
  have hI := W.type 0 _ hst
  have hIl : I < s.heap.objs.size := let ⟨_, ho, _⟩ := hI; Heap.lt_size ho
  have gS : G₁ s.heap.objs.size = none := PH.fresh x.sub (fresh_none (Nat.le_refl _))
  have hS0 := old_none x (fresh_none (Nat.le_refl s.heap.objs.size))
  refine callType_codes (Q₁ := fun obj s₁ => obj = .ref s.heap.objs.size ∧ s₁ = { s with heap := s.heap.push { cls := .type "list", data := .seq #[] } }) PySem.F.called_list (PySem.F.typeCall_list_1 _) PySem.F.entry_list_init
    (code_list_new _ ⟨rfl, rfl⟩) fun obj s₁ h₁ => ?_
  obtain ⟨rfl, rfl⟩ := h₁
  have hS : (s.heap.push { cls := .type "list", data := .seq #[] }).get? s.heap.objs.size = some { cls := .type "list", data := .seq #[] } := Heap.get?_push_size _ rfl
  have x1 : ExtE s₀ { s with heap := s.heap.push { cls := .type "list", data := .seq #[] } } G₀ G₁ := x.step (tk := s.toks) (fun b o e e' => Heap.get?_push_of_some _ e') fun a o e => Heap.get?_push_of_some _ (x.sub _ _ e)
  have hSw : s.heap.objs.size ∉ wr := fun hb => by
    obtain ⟨o, ho⟩ := Option.isSome_iff_exists.mp (W.here _ _ hst _ hb)
    exact Nat.lt_irrefl _ (Heap.lt_size ho)
  refine ⟨⟨_, hS, rfl⟩, PySem.F.args_list_init_2 _ _, tg_init (A := A.in1) W hh hSw (Nat.ne_of_gt hIl) hn hds hP hw₀ hS0 x1 gS gw (W.frame _ _ _ hst fun b o _ e => Heap.get?_push_of_some _ e) hS fun s' G' acc c x2 gS2 hS2 rd => ?_⟩
  refine ⟨rfl, _, x2.keepNew hS0 gS2 hS2, ?_⟩
  simp only [Rep]
  exact ⟨_, _, _, rfl, PH.put_self _ _ _, rd.mono (PH.le_put gS2)⟩
end
end Mine
end

/- part EP -/
section
open PySem PySem.W PyProof.Rows PySem.Calls PySem.Spec PyProof.V PySem.Builtin PySem.Builtin.Str
set_option maxRecDepth 100000
namespace Mine
noncomputable abbrev EnumO (h : Heap) (e it : Addr) (i : Int) (a : Addr) (f : Bool) (old : Value) : Prop :=
  h.get? e = some { cls := .type "enumerate", dict := none, data := .fields #[rawInt a, .bool f, .ref it, rawInt i, .none, old], slots := #[] }
theorem enum_len : typeLookup (.type "enumerate") "__len__" = pure none := by rw [typeLookup_type, builtinLookup_eq_fast]; kernel_rfl
theorem enum_hint : typeLookup (.type "enumerate") "__length_hint__" = pure none := by rw [typeLookup_type, builtinLookup_eq_fast]; kernel_rfl
theorem zip_len : typeLookup (.type "zip") "__len__" = pure none := by rw [typeLookup_type, builtinLookup_eq_fast]; kernel_rfl
theorem zip_hint : typeLookup (.type "zip") "__length_hint__" = pure none := by rw [typeLookup_type, builtinLookup_eq_fast]; kernel_rfl
section
variable {prog : Program} {w : World} {A : Around} {E : Value → Shared → Prop} {s : Shared}
theorem enumerate_next_out {e it l a : Addr} {f : Bool} {oa : Obj} {i : Nat} {items : Array Value} {x old : Value} {Q : Value → Shared → Prop}
    (he : EnumO s.heap e it i a f old) (ha : s.heap.get? a = some oa) (hae : a ≠ e) (hai : a ≠ it) (hit : s.heap.IsListIter it l i) (hl : s.heap.IsList l items) (hx : items[i]? = some x) (hne : e ≠ it)
    (hQ : ∀ h', EnumO h' e it ((i : Int) + 1) a true old → h'.IsListIter it l (i + 1) →
      h'.get? s.heap.objs.size = some { cls := .type "tuple", data := .seq #[.int i s.toks, x] } →
      (∀ b o, b ≠ e → b ≠ it → s.heap.get? b = some o → h'.get? b = some o) → Q (.ref s.heap.objs.size) { s with heap := h', toks := s.toks + 1 }) :
    wpAny (model prog w) A (Builtin.«enumerate.__next__» ⟨[.ref e], []⟩) (fun fin s' => ∃ v, fin = .done (.ret v) ∧ Q v s') E s := by
  refine bC fun z_ => ?_
  (obtain ⟨hp, g, d, tk, os⟩ := s) <;> refine z_ ?_ <;> clear z_
  show wpAny _ _ (field (.ref e) 2 >>= _) _ _ _
  refine wpAny_bind (wpAny_field he rfl (x := .ref it) rfl ?_)
  refine wpAny_bind (wpAny_nextOf_list_item hit hl hx fun h₁ hit₁ hs₁ => ?_)
  replace hs₁ : Heap.SameBut it hp h₁ := hs₁
  have he₁ : EnumO h₁ e it i a f old := (hs₁.2 e hne).trans he
  show wpAny _ _ (field (.ref e) 3 >>= _) _ _ ⟨h₁, g, d, tk, os⟩
  refine wpAny_bind (wpAny_field he₁ rfl (x := rawInt i) rfl ?_)
  show wpAny _ _ (field (.ref e) 4 >>= _) _ _ ⟨h₁, g, d, tk, os⟩
  refine wpAny_bind (wpAny_field he₁ rfl (x := .none) rfl ?_)
  show wpAny _ _ (mkInt i >>= _) _ _ ⟨h₁, g, d, tk, os⟩
  refine wpAny_bind (wpAny_mkInt ?_)
  show wpAny _ _ (setField (.ref e) 3 (rawInt ((i : Int) + 1)) >>= _) _ _ ⟨h₁, g, d, tk + 1, os⟩
  refine wpAny_bind (wpAny_setField_rec he₁ (by simp) fun h₂ he₂ hs₂ => ?_)
  replace hs₂ : Heap.SameBut e h₁ h₂ := hs₂
  replace he₂ : EnumO h₂ e it ((i : Int) + 1) a f old := he₂
  show wpAny _ _ (setField (.ref e) 4 .none >>= _) _ _ ⟨h₂, g, d, tk + 1, os⟩
  refine wpAny_bind (wpAny_setField_rec he₂ (by simp) fun h₃ he₃ hs₃ => ?_)
  replace hs₃ : Heap.SameBut e h₂ h₃ := hs₃
  replace he₃ : EnumO h₃ e it ((i : Int) + 1) a f old := he₃
  show wpAny _ _ (newTuple [.int i tk, x] >>= _) _ _ ⟨h₃, g, d, tk + 1, os⟩
  refine wpAny_bind (wpAny_newTuple ?_)
  have he₄ : EnumO (h₃.push { cls := .type "tuple", data := .seq #[.int i tk, x] }) e it ((i : Int) + 1) a f old := Heap.get?_push_of_some _ he₃
  generalize hh₄ : h₃.push { cls := .type "tuple", data := .seq #[.int i tk, x] } = h₄ at he₄
  have hsz : h₃.objs.size = hp.objs.size := by rw [hs₃.1, hs₂.1, hs₁.1]
  have hel : e < hp.objs.size := Heap.lt_size he
  have ht₄ : h₄.get? hp.objs.size = some { cls := .type "tuple", data := .seq #[.int i tk, x] } := by rw [← hh₄, ← hsz]; exact Heap.get?_push_size _ rfl
  have hk₄ : ∀ b o, b ≠ e → b ≠ it → hp.get? b = some o → h₄.get? b = some o := fun b o hbe hbi hb => by
    rw [← hh₄]; exact Heap.get?_push_of_some _ (hs₃.extBut b o hbe (hs₂.extBut b o hbe (hs₁.extBut b o hbi hb)))
  have hit₄ : h₄.IsListIter it l (i + 1) := by
    rw [← hh₄]; obtain ⟨o, ho, r⟩ := (hit₁.extBut hs₂.extBut (Ne.symm hne)).extBut hs₃.extBut (Ne.symm hne); exact ⟨o, Heap.get?_push_of_some _ ho, r⟩
  show wpAny _ _ (Builtin.SmallTypes.ownedTupleIsFree (.ref e) >>= _) _ _ ⟨h₄, g, d, tk + 1, os⟩
  rw [hsz]
  clear hh₄ he₃ hs₃ he₂ hs₂ he₁ hs₁ hit₁ hsz h₃ h₂ h₁
  have ha₄ : h₄.get? a = some oa := hk₄ _ _ hae hai ha
  refine wpAny_bind ?_
  unfold Builtin.SmallTypes.ownedTupleIsFree
  refine wpAny_bind (wpAny_field he₄ rfl (x := rawInt a) rfl ?_)
  show wpAny _ _ (loadIfAlive ((a : Int).toNat) >>= _) _ _ _
  rw [Int.toNat_natCast]
  refine wpAny_bind (kdx_alive ha₄ ?_)
  simp only [Option.isNone_some, Bool.false_eq_true, if_false]
  refine wpAny_bind (wpAny_field he₄ rfl (x := .bool f) rfl ?_)
  cases f with
  | true =>
    rw [if_neg (show ¬ ((Value.bool true != Value.bool true) = true) from Bool.false_ne_true)]
    refine wpAny_pure ?_
    simp only [Bool.false_eq_true, if_false]
    exact wpAny_pure ⟨_, rfl, hQ h₄ he₄ hit₄ ht₄ hk₄⟩
  | false =>
    rw [if_pos (show (Value.bool false != Value.bool true) = true from rfl)]
    refine wpAny_bind (wpAny_setField_rec he₄ (by simp) fun h₅ he₅ hs₅ => ?_)
    replace hs₅ : Heap.SameBut e h₄ h₅ := hs₅
    replace he₅ : EnumO h₅ e it ((i : Int) + 1) a true old := he₅
    refine wpAny_pure ?_
    simp only [Bool.false_eq_true, if_false]
    exact wpAny_pure ⟨_, rfl, hQ h₅ he₅ (hit₄.extBut hs₅.extBut (Ne.symm hne)) (hs₅.extBut _ _ (Nat.ne_of_gt hel) ht₄) fun b o hbe hbi hb => hs₅.extBut b o hbe (hk₄ b o hbe hbi hb)⟩
theorem pyNext_enum_out {e it l a : Addr} {f : Bool} {oa : Obj} {i : Nat} {items : Array Value} {x old : Value} {Q : Option Value → Shared → Prop}
    (he : EnumO s.heap e it i a f old) (ha : s.heap.get? a = some oa) (hae : a ≠ e) (hai : a ≠ it) (hit : s.heap.IsListIter it l i) (hl : s.heap.IsList l items) (hx : items[i]? = some x) (hne : e ≠ it)
    (hQ : ∀ h', EnumO h' e it ((i : Int) + 1) a true old → h'.IsListIter it l (i + 1) →
      h'.get? s.heap.objs.size = some { cls := .type "tuple", data := .seq #[.int i s.toks, x] } →
      (∀ b o, b ≠ e → b ≠ it → s.heap.get? b = some o → h'.get? b = some o) → Q (some (.ref s.heap.objs.size)) { s with heap := h', toks := s.toks + 1 }) :
    wpAny (model prog w) A (pyNext (.ref e)) Q E s := by
  have hT : s.TypeIs (.ref e) "enumerate" := ⟨_, he, rfl⟩
  unfold pyNext
  exact wpAny_bind (wpAny_attempt (wpAny_callSpecial?_slot (name := Str.ofString "__next__") hT PySem.F.slot_enumerate_next
    (wpAny_call_entry PySem.F.slot_enumerate_next hT PySem.F.entry_enumerate_next
      (enumerate_next_out he ha hae hai hit hl hx hne fun h' a c d k => wpAny_pure (hQ h' a c d k)) (PySem.F.args_enumerate_next_1 _))))
theorem pyNext_enum_stop {e it l a : Addr} {f : Bool} {i : Nat} {items : Array Value} {old : Value} {Q : Option Value → Shared → Prop} (hh : A.handled = none)
    (he : EnumO s.heap e it i a f old) (hit : s.heap.IsListIter it l i) (hl : s.heap.IsList l items) (hx : items[i]? = none)
    (hQ : ∀ h', Heap.ExtBut it s.heap h' → Q none { s with heap := h' }) : wpAny (model prog w) A (pyNext (.ref e)) Q E s := by
  have hT : s.TypeIs (.ref e) "enumerate" := ⟨_, he, rfl⟩
  unfold pyNext
  refine wpAny_bind (wpAny_attempt (wpAny_callSpecial?_slot (name := Str.ofString "__next__") hT PySem.F.slot_enumerate_next
    (wpAny_call_entry PySem.F.slot_enumerate_next hT PySem.F.entry_enumerate_next ?_ (PySem.F.args_enumerate_next_1 _))))
  show wpAny _ _ (field (.ref e) 2 >>= _) _ _ _
  refine wpAny_bind (wpAny_field he rfl (x := .ref it) rfl ?_)
  refine wpAny_bind (wpAny_nextOf_list_end hh hit hl hx fun h' x he' hx' => ?_)
  refine bC fun z_ => ?_
  (obtain ⟨o, ho, hc⟩ := hx') <;> refine z_ ?_ <;> clear z_
  refine wpAny_bind (wpAny_isInstance (T := "StopIteration") (b := true) ⟨o, ho, hc⟩ isSubtype_stop ?_)
  exact wpAny_pure (hQ _ he')
theorem pyIter_enumO {e it a : Addr} {f : Bool} {i : Int} {old : Value} {Q : Value → Shared → Prop} (he : EnumO s.heap e it i a f old) (h : Q (.ref e) s) : wpAny (model prog w) A (pyIter (.ref e)) Q E s := by
  have hT : s.TypeIs (.ref e) "enumerate" := ⟨_, he, rfl⟩
  refine wpAny_pyIter_slot hT PySem.F.slot_enumerate_iter (wpAny_call_entry PySem.F.slot_enumerate_iter hT PySem.F.entry_enumerate_iter ?_ (PySem.F.args_enumerate_iter_1 _))
  show wpAny _ _ (ret (.ref e)) _ _ s
  exact wpAny_pure ⟨_, rfl, "enumerate", _, hT, PySem.F.slot_enumerate_next.lookup, h⟩
end
noncomputable def EnSt (e it l S : Addr) (items : Array Value) (i : Nat) (h : Heap) : Prop :=
  h.IsListIter it l i ∧ h.IsList l items ∧ ((∃ old, IsEnum h e it i old) ∨ ∃ a f old oa, EnumO h e it i a f old ∧ h.get? a = some oa ∧ a ≠ e ∧ a ≠ it ∧ a ≠ S)
theorem TG.enum {prog : Program} {w : World} {e it l S : Addr} {items : Array Value} (hei : e ≠ it) (hle : l ≠ e) (hli : l ≠ it) (hSe : e ≠ S) (hSi : it ≠ S) (hSl : l ≠ S) :
    TG prog w "enumerate" e [e, it] items.size S (fun i vals => ∃ t x, items[i]? = some x ∧ vals = #[.int i t, x]) (EnSt e it l S items) where
  nl := by decide
  nt := by decide
  len := enum_len
  hint := enum_hint
  type := fun i s st => by
    obtain ⟨_, _, ⟨old, h⟩ | ⟨a, f, old, oa, h, _⟩⟩ := st
    · exact ⟨_, h, rfl⟩
    · exact ⟨_, h, rfl⟩
  here := fun i h st b hb => by
    refine bC fun z_ => ?_
    (obtain ⟨⟨o, ho, _⟩, _, h2⟩ := st) <;> refine z_ ?_ <;> clear z_
    rcases List.mem_cons.mp hb with rfl | hb
    · rcases h2 with ⟨old, h⟩ | ⟨a, f, old, oa, h, _⟩
      · have h' := h; unfold IsEnum at h'; rw [h']; rfl
      · have h' := h; unfold EnumO at h'; rw [h']; rfl
    · rw [List.mem_singleton.mp hb, ho]; rfl
  frame := fun i h h' st hk => by
    refine bC fun z_ => ?_
    (obtain ⟨h1, h2, h3⟩ := st) <;> refine z_ ?_ <;> clear z_
    refine ⟨h1.at fun o e => hk _ o hSi e, h2.at fun o e => hk _ o hSl e, ?_⟩
    rcases h3 with ⟨old, h⟩ | ⟨a, f, old, oa, h, ha, h4, h5, h6⟩
    · exact .inl ⟨old, hk _ _ hSe h⟩
    · exact .inr ⟨a, f, old, oa, hk _ _ hSe h, hk _ _ h6 ha, h4, h5, h6⟩
  self := fun A i s Q E hh st hq => by
    obtain ⟨_, _, ⟨old, h⟩ | ⟨a, f, old, oa, h, _⟩⟩ := st
    · exact wpAny_pyIter_enum h hq
    · exact pyIter_enumO h hq
  item := fun A i s Q E hh hi st hS hq => by
    refine bC fun z_ => ?_
    (obtain ⟨h1, h2, h3⟩ := st) <;> refine z_ ?_ <;> clear z_
    have hx : items[i]? = some items[i] := Array.getElem?_eq_getElem hi
    have ei : ((i + 1 : Nat) : Int) = (i : Int) + 1 := by omega
    have hSlt : S < s.heap.objs.size := by obtain ⟨o, ho⟩ := Option.isSome_iff_exists.mp hS; exact Heap.lt_size ho
    have hil : it < s.heap.objs.size := by obtain ⟨o, ho, _⟩ := h1; exact Heap.lt_size ho
    rcases h3 with ⟨old, h⟩ | ⟨a, f, old, oa, h, ha, h4, h5, h6⟩
    · refine wpAny_pyNext_enum_item h h1 h2 hx hei fun h' he hit' ht hz hk => ?_
      refine hq _ h' _ ⟨s.toks, _, hx, rfl⟩ ht ⟨hit', h2.at fun o e => hk _ o hle hli e, .inr ⟨s.heap.objs.size, false, items[i], _, by rw [ei]; exact he, ht, ?_, Nat.ne_of_gt hil, Nat.ne_of_gt hSlt⟩⟩ fun b o hb e => hk b o (fun q => hb (by simp [q])) (fun q => hb (by simp [q])) e
      exact Nat.ne_of_gt (Heap.lt_size h)
    · refine pyNext_enum_out h ha h4 h5 h1 h2 hx hei fun h' he hit' ht hk => ?_
      exact hq _ h' _ ⟨s.toks, _, hx, rfl⟩ ht ⟨hit', h2.at fun o e => hk _ o hle hli e, .inr ⟨a, true, old, oa, by rw [ei]; exact he, hk _ _ h4 h5 ha, h4, h5, h6⟩⟩ fun b o hb e => hk b o (fun q => hb (by simp [q])) (fun q => hb (by simp [q])) e
  done := fun A s Q E hh st hq => by
    refine bC fun z_ => ?_
    (obtain ⟨h1, h2, h3⟩ := st) <;> refine z_ ?_ <;> clear z_
    have hx : items[items.size]? = none := Array.getElem?_eq_none (Nat.le_refl _)
    rcases h3 with ⟨old, h⟩ | ⟨a, f, old, oa, h, ha, h4, h5, h6⟩
    · exact wpAny_pyNext_enum_end hh h h1 h2 hx fun h' hk => hq h' s.toks fun b o hb e => hk b o (fun q => hb (by simp [q])) e
    · exact pyNext_enum_stop hh h h1 h2 hx fun h' hk => hq h' s.toks fun b o hb e => hk b o (fun q => hb (by simp [q])) e
end Mine
end

/- part EQ -/
section
open PySem PySem.W PyProof.Rows PySem.Calls PySem.Spec PyProof.V PySem.Builtin PySem.Builtin.Str
set_option maxRecDepth 100000
namespace Mine
noncomputable abbrev ZipO (h : Heap) (z TI TO a : Addr) (f : Bool) : Prop :=
  h.get? z = some { cls := .type "zip", dict := none, data := .fields #[rawInt a, .bool f, .bool false, .ref TI, .ref TO], slots := #[] }
section
variable {prog : Program} {w : World} {A : Around} {E : Value → Shared → Prop} {s : Shared}
theorem zip_free_out {z TI TO a : Addr} {f : Bool} {oa : Obj} {Q : Bool → Shared → Prop} (hz : ZipO s.heap z TI TO a f) (ha : s.heap.get? a = some oa)
    (hQ : ∀ h', ZipO h' z TI TO a true → Heap.SameBut z s.heap h' → Q false { s with heap := h' }) : wpAny (model prog w) A (Builtin.SmallTypes.ownedTupleIsFree (.ref z)) Q E s := by
  unfold Builtin.SmallTypes.ownedTupleIsFree
  refine wpAny_bind (wpAny_field hz rfl (x := rawInt a) rfl ?_)
  show wpAny _ _ (loadIfAlive ((a : Int).toNat) >>= _) _ _ _
  rw [Int.toNat_natCast]
  refine wpAny_bind (kdx_alive ha ?_)
  simp only [Option.isNone_some, Bool.false_eq_true, if_false]
  refine wpAny_bind (wpAny_field hz rfl (x := .bool f) rfl ?_)
  cases f with
  | true =>
    rw [if_neg (show ¬ ((Value.bool true != Value.bool true) = true) from Bool.false_ne_true)]
    exact wpAny_pure (hQ s.heap hz (Heap.SameBut.refl _ _))
  | false =>
    rw [if_pos (show (Value.bool false != Value.bool true) = true from rfl)]
    exact wpAny_bind (wpAny_setField_rec hz (by simp) fun h₅ he₅ hs₅ => wpAny_pure (hQ h₅ he₅ hs₅))
theorem zip_next_out {z TI TO i1 i2 l1 l2 a : Addr} {f : Bool} {oa : Obj} {k1 k2 : Nat} {xs ys : Array Value} {x y : Value} {Q : Value → Shared → Prop} (D : ZipApart z TI TO i1 i2 l1 l2)
    (hz : ZipO s.heap z TI TO a f) (ha : s.heap.get? a = some oa) (hTI : IsPair s.heap TI (.ref i1) (.ref i2))
    (h1 : s.heap.IsListIter i1 l1 k1) (h2 : s.heap.IsListIter i2 l2 k2) (hl1 : s.heap.IsList l1 xs) (hl2 : s.heap.IsList l2 ys) (hx : xs[k1]? = some x) (hy : ys[k2]? = some y)
    (hQ : ∀ h', ZipO h' z TI TO a true → h'.IsListIter i1 l1 (k1 + 1) → h'.IsListIter i2 l2 (k2 + 1) → IsPair h' s.heap.objs.size x y →
      (∀ c o, c ≠ z → c ≠ i1 → c ≠ i2 → s.heap.get? c = some o → h'.get? c = some o) → Q (.ref s.heap.objs.size) { s with heap := h' }) :
    wpAny (model prog w) A (Builtin.«zip.__next__» ⟨[.ref z], []⟩) (fun fin s' => ∃ v, fin = .done (.ret v) ∧ Q v s') E s := by
  show wpAny _ _ (field (.ref z) 2 >>= _) _ _ _
  refine wpAny_bind (wpAny_field hz rfl (x := .bool false) rfl ?_)
  show wpAny _ _ (field (.ref z) 3 >>= _) _ _ _
  refine wpAny_bind (wpAny_field hz rfl (x := .ref TI) rfl ?_)
  refine wpAny_bind (wpAny_seqItems hTI rfl ?_)
  show wpAny _ _ (Builtin.SmallTypes.ownedTupleIsFree (.ref z) >>= _) _ _ _
  refine wpAny_bind (zip_free_out hz ha fun h₁ hz₁ hs₁ => ?_)
  simp only [Bool.false_eq_true, if_false]
  rw [← Array.forIn_toList]
  simp only [List.forIn_cons, List.forIn_nil]
  refine wpAny_bind (wpAny_bind ?_)
  refine wpAny_bind (wpAny_holding ?_)
  show wpAny _ _ (Builtin.SmallTypes.nextOf (.ref i1) >>= _) _ _ _
  refine wpAny_bind (wpAny_nextOf_list_item (h1.extBut hs₁.extBut D.i1z) (hl1.extBut hs₁.extBut D.l1z) hx fun h₂ h1₂ hs₂ => wpAny_pure ?_)
  refine wpAny_pure ?_
  dsimp only
  refine wpAny_bind ?_
  refine wpAny_bind (wpAny_holding ?_)
  show wpAny _ _ (Builtin.SmallTypes.nextOf (.ref i2) >>= _) _ _ _
  refine wpAny_bind (wpAny_nextOf_list_item ((h2.extBut hs₁.extBut D.i2z).extBut hs₂.extBut D.i12.symm)
    ((hl2.extBut hs₁.extBut D.l2z).extBut hs₂.extBut D.l2i1) hy fun h₄ h2₄ hs₄ => wpAny_pure ?_)
  refine wpAny_pure ?_
  dsimp only
  refine wpAny_pure ?_
  dsimp only
  refine wpAny_bind (wpAny_newTuple (hsz := by simp; decide) ?_)
  have hsz : h₄.objs.size = s.heap.objs.size := by rw [hs₄.1, hs₂.1, hs₁.1]
  have hz₄ : ZipO h₄ z TI TO a true := hs₄.extBut _ _ D.i2z.symm (hs₂.extBut _ _ D.i1z.symm hz₁)
  refine wpAny_pure ⟨_, rfl, ?_⟩
  show Q (.ref h₄.objs.size) _
  rw [hsz]
  refine hQ _ (Heap.get?_push_of_some _ hz₄) ((h1₂.extBut hs₄.extBut D.i12).at fun o e => Heap.get?_push_of_some _ e) (h2₄.at fun o e => Heap.get?_push_of_some _ e) ?_ fun c o c1 c2 c3 e => Heap.get?_push_of_some _ (hs₄.extBut _ _ c3 (hs₂.extBut _ _ c2 (hs₁.extBut _ _ c1 e)))
  rw [← hsz]
  exact Heap.get?_push_size _ rfl
theorem zip_stop_out {z TI TO i1 i2 l1 l2 a : Addr} {f : Bool} {oa : Obj} {k1 k2 : Nat} {xs ys : Array Value} {Q : Fin → Shared → Prop} (hh : A.handled = none) (D : ZipApart z TI TO i1 i2 l1 l2)
    (hz : ZipO s.heap z TI TO a f) (ha : s.heap.get? a = some oa) (hTI : IsPair s.heap TI (.ref i1) (.ref i2))
    (h1 : s.heap.IsListIter i1 l1 k1) (h2 : s.heap.IsListIter i2 l2 k2) (hl1 : s.heap.IsList l1 xs) (hl2 : s.heap.IsList l2 ys) (hend : xs[k1]? = none ∨ ys[k2]? = none)
    (hE : ∀ h' e, (∀ c o, c ≠ z → c ≠ i1 → c ≠ i2 → s.heap.get? c = some o → h'.get? c = some o) → (∃ o, h'.get? e = some o ∧ o.cls = .type "StopIteration") → E (.ref e) { s with heap := h' }) :
    wpAny (model prog w) A (Builtin.«zip.__next__» ⟨[.ref z], []⟩) Q E s := by
  show wpAny _ _ (field (.ref z) 2 >>= _) _ _ _
  refine wpAny_bind (wpAny_field hz rfl (x := .bool false) rfl ?_)
  show wpAny _ _ (field (.ref z) 3 >>= _) _ _ _
  refine wpAny_bind (wpAny_field hz rfl (x := .ref TI) rfl ?_)
  refine wpAny_bind (wpAny_seqItems hTI rfl ?_)
  show wpAny _ _ (Builtin.SmallTypes.ownedTupleIsFree (.ref z) >>= _) _ _ _
  refine wpAny_bind (zip_free_out hz ha fun h₁ hz₁ hs₁ => ?_)
  simp only [Bool.false_eq_true, if_false]
  rw [← Array.forIn_toList]
  simp only [List.forIn_cons, List.forIn_nil]
  refine wpAny_bind (wpAny_bind ?_)
  refine wpAny_bind (wpAny_holding ?_)
  show wpAny _ _ (Builtin.SmallTypes.nextOf (.ref i1) >>= _) _ _ _
  cases hx : xs[k1]? with
  | none =>
    refine wpAny_bind (wpAny_nextOf_list_end hh (h1.extBut hs₁.extBut D.i1z) (hl1.extBut hs₁.extBut D.l1z) hx fun h₂ e hs₂ he => ?_)
    exact hE h₂ e (fun c o c1 c3 _ x => hs₂ _ _ c3 (hs₁.extBut _ _ c1 x)) he
  | some x =>
    have hy : ys[k2]? = none := by rcases hend with h | h; rw [hx] at h; cases h; exact h
    refine wpAny_bind (wpAny_nextOf_list_item (h1.extBut hs₁.extBut D.i1z) (hl1.extBut hs₁.extBut D.l1z) hx fun h₂ h1₂ hs₂ => wpAny_pure ?_)
    refine wpAny_pure ?_
    dsimp only
    refine wpAny_bind ?_
    refine wpAny_bind (wpAny_holding ?_)
    show wpAny _ _ (Builtin.SmallTypes.nextOf (.ref i2) >>= _) _ _ _
    refine wpAny_bind (wpAny_nextOf_list_end hh ((h2.extBut hs₁.extBut D.i2z).extBut hs₂.extBut D.i12.symm)
      ((hl2.extBut hs₁.extBut D.l2z).extBut hs₂.extBut D.l2i1) hy fun h₄ e hs₄ he => ?_)
    exact hE h₄ e (fun c o c1 c3 c4 x => hs₄ _ _ c4 (hs₂.extBut _ _ c3 (hs₁.extBut _ _ c1 x))) he
theorem pyNext_zip_out {z TI TO i1 i2 l1 l2 a : Addr} {f : Bool} {oa : Obj} {k1 k2 : Nat} {xs ys : Array Value} {x y : Value} {Q : Option Value → Shared → Prop} (D : ZipApart z TI TO i1 i2 l1 l2)
    (hz : ZipO s.heap z TI TO a f) (ha : s.heap.get? a = some oa) (hTI : IsPair s.heap TI (.ref i1) (.ref i2))
    (h1 : s.heap.IsListIter i1 l1 k1) (h2 : s.heap.IsListIter i2 l2 k2) (hl1 : s.heap.IsList l1 xs) (hl2 : s.heap.IsList l2 ys) (hx : xs[k1]? = some x) (hy : ys[k2]? = some y)
    (hQ : ∀ h', ZipO h' z TI TO a true → h'.IsListIter i1 l1 (k1 + 1) → h'.IsListIter i2 l2 (k2 + 1) → IsPair h' s.heap.objs.size x y →
      (∀ c o, c ≠ z → c ≠ i1 → c ≠ i2 → s.heap.get? c = some o → h'.get? c = some o) → Q (some (.ref s.heap.objs.size)) { s with heap := h' }) : wpAny (model prog w) A (pyNext (.ref z)) Q E s := by
  have hT : s.TypeIs (.ref z) "zip" := ⟨_, hz, rfl⟩
  unfold pyNext
  exact wpAny_bind (wpAny_attempt (wpAny_callSpecial?_slot (name := Str.ofString "__next__") hT PySem.F.slot_zip_next
    (wpAny_call_entry PySem.F.slot_zip_next hT PySem.F.entry_zip_next
      (zip_next_out D hz ha hTI h1 h2 hl1 hl2 hx hy fun h' a1 a2 a3 a4 a5 => wpAny_pure (hQ h' a1 a2 a3 a4 a5)) (PySem.F.args_zip_next_1 _))))
theorem pyNext_zip_stop {z TI TO i1 i2 l1 l2 a : Addr} {f : Bool} {oa : Obj} {k1 k2 : Nat} {xs ys : Array Value} {Q : Option Value → Shared → Prop} (hh : A.handled = none) (D : ZipApart z TI TO i1 i2 l1 l2)
    (hz : ZipO s.heap z TI TO a f) (ha : s.heap.get? a = some oa) (hTI : IsPair s.heap TI (.ref i1) (.ref i2))
    (h1 : s.heap.IsListIter i1 l1 k1) (h2 : s.heap.IsListIter i2 l2 k2) (hl1 : s.heap.IsList l1 xs) (hl2 : s.heap.IsList l2 ys) (hend : xs[k1]? = none ∨ ys[k2]? = none)
    (hQ : ∀ h', (∀ c o, c ≠ z → c ≠ i1 → c ≠ i2 → s.heap.get? c = some o → h'.get? c = some o) → Q none { s with heap := h' }) : wpAny (model prog w) A (pyNext (.ref z)) Q E s := by
  have hT : s.TypeIs (.ref z) "zip" := ⟨_, hz, rfl⟩
  unfold pyNext
  refine wpAny_bind (wpAny_attempt (wpAny_callSpecial?_slot (name := Str.ofString "__next__") hT PySem.F.slot_zip_next
    (wpAny_call_entry PySem.F.slot_zip_next hT PySem.F.entry_zip_next (zip_stop_out hh D hz ha hTI h1 h2 hl1 hl2 hend fun h' e hk he => ?_) (PySem.F.args_zip_next_1 _))))
  refine bC fun z_ => ?_
  (obtain ⟨o, ho, hc⟩ := he) <;> refine z_ ?_ <;> clear z_
  refine wpAny_bind (wpAny_isInstance (T := "StopIteration") (b := true) ⟨o, ho, hc⟩ isSubtype_stop ?_)
  exact wpAny_pure (hQ _ hk)
theorem pyIter_zipO {z TI TO a : Addr} {f : Bool} {Q : Value → Shared → Prop} (hz : ZipO s.heap z TI TO a f) (h : Q (.ref z) s) : wpAny (model prog w) A (pyIter (.ref z)) Q E s := by
  have hT : s.TypeIs (.ref z) "zip" := ⟨_, hz, rfl⟩
  refine wpAny_pyIter_slot hT PySem.F.slot_zip_iter (wpAny_call_entry PySem.F.slot_zip_iter hT PySem.F.entry_zip_iter ?_ (PySem.F.args_zip_iter_1 _))
  show wpAny _ _ (ret (.ref z)) _ _ s
  exact wpAny_pure ⟨_, rfl, "zip", _, hT, PySem.F.slot_zip_next.lookup, h⟩
end
noncomputable def ZiSt (z TI TO i1 i2 l1 l2 S : Addr) (xs ys : Array Value) (i : Nat) (h : Heap) : Prop :=
  IsPair h TI (.ref i1) (.ref i2) ∧ h.IsListIter i1 l1 i ∧ h.IsListIter i2 l2 i ∧ h.IsList l1 xs ∧ h.IsList l2 ys ∧ (∃ a b, IsPair h TO a b) ∧
    (IsZip h z TI TO .none ∨ ∃ a f oa, ZipO h z TI TO a f ∧ h.get? a = some oa ∧ a ≠ z ∧ a ≠ i1 ∧ a ≠ i2 ∧ a ≠ S)
theorem TG.zip {prog : Program} {w : World} {z TI TO i1 i2 l1 l2 S : Addr} {xs ys : Array Value} (D : ZipApart z TI TO i1 i2 l1 l2) (hz : z ≠ S) (hTI : TI ≠ S) (hTO : TO ≠ S) (hi1 : i1 ≠ S) (hi2 : i2 ≠ S) (hl1 : l1 ≠ S) (hl2 : l2 ≠ S) :
    TG prog w "zip" z [z, TO, i1, i2] (min xs.size ys.size) S (fun i vals => ∃ x y, xs[i]? = some x ∧ ys[i]? = some y ∧ vals = #[x, y]) (ZiSt z TI TO i1 i2 l1 l2 S xs ys) where
  nl := by decide
  nt := by decide
  len := zip_len
  hint := zip_hint
  type := fun i s st => by
    obtain ⟨_, _, _, _, _, _, h | ⟨a, f, oa, h, _⟩⟩ := st
    · exact ⟨_, h, rfl⟩
    · exact ⟨_, h, rfl⟩
  here := fun i h st b hb => by
    refine bC fun z_ => ?_
    (obtain ⟨_, ⟨o1, ho1, _⟩, ⟨o2, ho2, _⟩, _, _, ⟨a', b', hTO'⟩, h2⟩ := st) <;> refine z_ ?_ <;> clear z_
    simp only [List.mem_cons, List.not_mem_nil, or_false] at hb
    rcases hb with rfl | rfl | rfl | rfl
    · rcases h2 with h | ⟨a, f, oa, h, _⟩
      · have h' := h; unfold IsZip at h'; rw [h']; rfl
      · have h' := h; unfold ZipO at h'; rw [h']; rfl
    · unfold IsPair at hTO'; rw [hTO']; rfl
    · rw [ho1]; rfl
    · rw [ho2]; rfl
  frame := fun i h h' st hk => by
    refine bC fun z_ => ?_
    (obtain ⟨g1, g2, g3, g4, g5, ⟨a', b', g6⟩, g7⟩ := st) <;> refine z_ ?_ <;> clear z_
    refine ⟨hk _ _ hTI g1, g2.at fun o e => hk _ o hi1 e, g3.at fun o e => hk _ o hi2 e, g4.at fun o e => hk _ o hl1 e, g5.at fun o e => hk _ o hl2 e, ⟨a', b', hk _ _ hTO g6⟩, ?_⟩
    rcases g7 with h | ⟨a, f, oa, h, ha, h4, h5, h6, h7⟩
    · exact .inl (hk _ _ hz h)
    · exact .inr ⟨a, f, oa, hk _ _ hz h, hk _ _ h7 ha, h4, h5, h6, h7⟩
  self := fun A i s Q E hh st hq => by
    obtain ⟨_, _, _, _, _, _, h | ⟨a, f, oa, h, _⟩⟩ := st
    · exact wpAny_pyIter_zip h hq
    · exact pyIter_zipO h hq
  item := fun A i s Q E hh hi st hS hq => by
    refine bC fun z_ => ?_
    (obtain ⟨g1, g2, g3, g4, g5, ⟨a', b', g6⟩, g7⟩ := st) <;> refine z_ ?_ <;> clear z_
    have hx : xs[i]? = some xs[i] := Array.getElem?_eq_getElem (Nat.lt_of_lt_of_le hi (Nat.min_le_left ..))
    have hy : ys[i]? = some ys[i] := Array.getElem?_eq_getElem (Nat.lt_of_lt_of_le hi (Nat.min_le_right ..))
    have hSlt : S < s.heap.objs.size := by obtain ⟨o, ho⟩ := Option.isSome_iff_exists.mp hS; exact Heap.lt_size ho
    have hil1 : i1 < s.heap.objs.size := by obtain ⟨o, ho, _⟩ := g2; exact Heap.lt_size ho
    have hil2 : i2 < s.heap.objs.size := by obtain ⟨o, ho, _⟩ := g3; exact Heap.lt_size ho
    rcases g7 with h | ⟨a, f, oa, h, ha, h4, h5, h6, h7⟩
    · refine wpAny_pyNext_zip_item D h g1 g6 g2 g3 g4 g5 hx hy fun h' e1 e2 e3 e4 e5 _ hk => ?_
      refine hq _ h' s.toks ⟨_, _, hx, hy, rfl⟩ e5 ⟨hk _ _ D.TIz D.TITO D.TIi1 D.TIi2 g1, e3, e4, g4.at fun o e => hk _ o D.l1z D.l1TO D.l1i1 D.l1i2 e, g5.at fun o e => hk _ o D.l2z D.l2TO D.l2i1 D.l2i2 e, ⟨_, _, e2⟩, .inr ⟨s.heap.objs.size, false, _, e1, e5, Nat.ne_of_gt (Heap.lt_size h), Nat.ne_of_gt hil1, Nat.ne_of_gt hil2, Nat.ne_of_gt hSlt⟩⟩ fun b o hb e => hk b o (fun q => hb (by simp [q])) (fun q => hb (by simp [q])) (fun q => hb (by simp [q])) (fun q => hb (by simp [q])) e
    · refine pyNext_zip_out D h ha g1 g2 g3 g4 g5 hx hy fun h' e1 e3 e4 e5 hk => ?_
      refine hq _ h' s.toks ⟨_, _, hx, hy, rfl⟩ e5 ⟨hk _ _ D.TIz D.TIi1 D.TIi2 g1, e3, e4, g4.at fun o e => hk _ o D.l1z D.l1i1 D.l1i2 e, g5.at fun o e => hk _ o D.l2z D.l2i1 D.l2i2 e, ⟨_, _, hk _ _ D.TOz D.TOi1 D.TOi2 g6⟩, .inr ⟨a, true, oa, e1, hk _ _ h4 h5 h6 ha, h4, h5, h6, h7⟩⟩ fun b o hb e => hk b o (fun q => hb (by simp [q])) (fun q => hb (by simp [q])) (fun q => hb (by simp [q])) e
  done := fun A s Q E hh st hq => by
    refine bC fun z_ => ?_
    (obtain ⟨g1, g2, g3, g4, g5, ⟨a', b', g6⟩, g7⟩ := st) <;> refine z_ ?_ <;> clear z_
    have hend : xs[min xs.size ys.size]? = none ∨ ys[min xs.size ys.size]? = none := by
      rcases Nat.le_total xs.size ys.size with h | h
      · exact .inl (by rw [Nat.min_eq_left h]; exact Array.getElem?_eq_none (Nat.le_refl _))
      · exact .inr (by rw [Nat.min_eq_right h]; exact Array.getElem?_eq_none (Nat.le_refl _))
    rcases g7 with h | ⟨a, f, oa, h, ha, h4, h5, h6, h7⟩
    · exact wpAny_pyNext_zip_end hh D h g1 g6 g2 g3 g4 g5 hend fun h' hk => hq h' s.toks fun b o hb e => hk b o (fun q => hb (by simp [q])) (fun q => hb (by simp [q])) (fun q => hb (by simp [q])) (fun q => hb (by simp [q])) e
    · exact pyNext_zip_stop hh D h ha g1 g2 g3 g4 g5 hend fun h' hk => hq h' s.toks fun b o hb e => hk b o (fun q => hb (by simp [q])) (fun q => hb (by simp [q])) (fun q => hb (by simp [q])) e
end Mine
end

/- part ER -/
section
open PySem PySem.W PyProof.Rows PySem.Calls PySem.Spec PyProof.V PySem.Builtin PySem.Builtin.Str
set_option maxRecDepth 10000
namespace Mine
theorem RepL.of_get {G : PH} : ∀ {l : List D} {vs : List Value}, l.length = vs.length → (∀ (i : Nat) (d : D) (v : Value), l[i]? = some d → vs[i]? = some v → Rep G d v) → RepL G l vs
  | [], [], _, _ => RepL.nil
  | [], _ :: _, h, _ => by simp at h
  | _ :: _, [], h, _ => by simp at h
  | d :: l, v :: vs, h, k => RepL.cons (k 0 d v rfl rfl) (RepL.of_get (by simpa using h) fun i d v h1 h2 => k (i + 1) d v (by simpa using h1) (by simpa using h2))
section
variable {U : U0} {l : Nat} {C : Cx} {Z : Zz}
theorem Snd.listEnum {nm nm' : Str} {e : Expr} {y : X} {p p' pos pos' : Pos} (b : BltIn U Z nm (.type "list")) (b' : BltIn U Z nm' (.type "enumerate")) (h : Snd U l C Z e y) (hp : notStar e = true) : Snd U l C Z (.Call (.Name nm p) [.Call (.Name nm' p') [e] [] pos'] [] pos) (.listOf (.enum y)) := by
  intro A env s G r d hE hR hB R q
  obtain ⟨ds, j_, q⟩ := bsome q
  obtain ⟨d1, e1, q1⟩ := bsome j_
  obtain ⟨hl, rfl⟩ := lenOk_some q
  obtain ⟨ll, h_, q1⟩ := bsome q1
  have h_ := asL_inv h_; subst h_
  cases q1
  refine typ_call b hE hB (one_plain rfl) (by simp) (wpAny_items_cons ?_ (starEach_plain rfl))
  refine typ_call b' hE hB (one_plain hp) (by simp) (one_arg h hp hE hR hB R e1 fun v s1 G1 x1 r1 => ?_)
  simp only [Rep] at r1; obtain ⟨a, vs, n, rfl, g, rl⟩ := r1
  have ho := x1.sub _ _ g
  have hlen := rl.length; rw [Array.length_toList] at hlen
  have hL : s1.heap.IsList a vs := ⟨_, ho, rfl, n, rfl⟩
  refine call_enumerate_list hL fun h' he hit hsz hk => wpAny_items_nil ?_
  have x2 := ExtE.grow (tk := s1.toks) x1.sub hk
  have n0 : s1.heap.get? s1.heap.objs.size = Option.none := fresh_none (Nat.le_refl _)
  have n1 : s1.heap.get? (s1.heap.objs.size + 1) = Option.none := fresh_none (Nat.le_succ _)
  have ane := ne_size ho
  have alt := Heap.lt_size ho
  have ane1 : a ≠ s1.heap.objs.size + 1 := Nat.ne_of_lt (Nat.lt_succ_of_lt alt)
  have hS : ∀ {j}, j < s1.heap.objs.size + 2 → j ≠ h'.objs.size := fun hj => by rw [hsz]; exact Nat.ne_of_lt hj
  have hbig : big = 1000000 := rfl
  have hsl := sizeLine_eq
  rw [enumD_len] at hl
  refine wpAny_mono (tg_call (s := { s1 with heap := h' }) (TG.enum (prog := U.prog) (w := U.w) (items := vs) (Nat.ne_of_gt (Nat.lt_succ_self _)) ane1 ane (hS (Nat.lt_succ_self _)) (hS (by omega)) (hS (Nat.lt_of_lt_of_le alt (Nat.le_add_right _ _)))) hR.hand (by omega) (by rw [enumD_len, ← hlen]) (fun i vals d hd ⟨t, x, hx, hv⟩ => ?_) (fun b hb => ?_) (x1.trans x2) (fun b hb => ?_) ⟨hit, hL.at fun o e => hk _ _ e, .inl ⟨.none, he⟩⟩) (fun _ _ q => q) fun _ _ f => f
  · obtain ⟨e, he1, rfl⟩ := enumD_get 0 ll i d hd
    refine bC fun z_ => ?_
    (obtain ⟨v', hv', rv⟩ := rl.get he1) <;> refine z_ ?_ <;> clear z_
    rw [Array.getElem?_toList, hx] at hv'
    cases hv'
    subst hv
    refine ⟨_, rfl, RepL.cons ?_ (RepL.cons rv RepL.nil)⟩
    simp only [Rep]; exact ⟨t, by rw [Nat.zero_add]⟩
  · rcases List.mem_cons.mp hb with rfl | hb
    · exact old_none x1 n1
    · rw [List.mem_singleton.mp hb]; exact old_none x1 n0
  · rcases List.mem_cons.mp hb with rfl | hb
    · exact PH.fresh x1.sub n1
    · rw [List.mem_singleton.mp hb]; exact PH.fresh x1.sub n0
theorem Snd.listZip {nm nm' : Str} {e f : Expr} {y z : X} {p p' pos pos' : Pos} (b : BltIn U Z nm (.type "list")) (b' : BltIn U Z nm' (.type "zip")) (h : Snd U l C Z e y) (h2 : Snd U l C Z f z) (hp : notStar e = true) (hp2 : notStar f = true) :
    Snd U l C Z (.Call (.Name nm p) [.Call (.Name nm' p') [e, f] [] pos'] [] pos) (.listOf (.zip y z)) := by
  intro A env s G r d hE hR hB R q
  obtain ⟨ds, j_, q⟩ := bsome q
  obtain ⟨d1, e1, k_⟩ := bsome j_
  obtain ⟨d2, e2, q1⟩ := bsome k_
  obtain ⟨hl, rfl⟩ := lenOk_some q
  obtain ⟨ll, h_, q2⟩ := bsome q1
  obtain ⟨mm, h'_, q3⟩ := bsome q2
  have h_ := asL_inv h_; subst h_
  have h'_ := asL_inv h'_; subst h'_
  clear q1 q2
  · cases q3
    refine typ_call b hE hB (one_plain rfl) (by simp) (wpAny_items_cons ?_ (starEach_plain rfl))
    refine typ_call b' hE hB (by unfold allPlain allPlain allPlain; rw [hp, hp2]; rfl) (by simp) (two_args h h2 hp hp2 hE hR hB R e1 e2 fun v u s1 G1 x1 r1 r2 => ?_)
    simp only [Rep] at r1 r2
    refine bC fun z_ => ?_
    (obtain ⟨a, vs, n, rfl, g, rl⟩ := r1) <;> refine z_ ?_ <;> clear z_
    refine bC fun z_ => ?_
    (obtain ⟨a', vs', n', rfl, g', rl'⟩ := r2) <;> refine z_ ?_ <;> clear z_
    have ho := x1.sub _ _ g
    have ho' := x1.sub _ _ g'
    have hlen := rl.length; rw [Array.length_toList] at hlen
    have hlen' := rl'.length; rw [Array.length_toList] at hlen'
    have hL : s1.heap.IsList a vs := ⟨_, ho, rfl, n, rfl⟩
    have hL' : s1.heap.IsList a' vs' := ⟨_, ho', rfl, n', rfl⟩
    refine call_zip_2 hL hL' fun h' hz hTI hTO hi1 hi2 hsz hk => wpAny_items_nil ?_
    have x2 := ExtE.grow (tk := s1.toks) x1.sub hk
    have nn : ∀ j, s1.heap.get? (s1.heap.objs.size + j) = Option.none := fun j => fresh_none (Nat.le_add_right _ _)
    have na : ∀ j, a ≠ s1.heap.objs.size + j := fun j => Nat.ne_of_lt (Nat.lt_of_lt_of_le (Heap.lt_size ho) (Nat.le_add_right _ _))
    have na' : ∀ j, a' ≠ s1.heap.objs.size + j := fun j => Nat.ne_of_lt (Nat.lt_of_lt_of_le (Heap.lt_size ho') (Nat.le_add_right _ _))
    have D : ZipApart (s1.heap.objs.size + 4) (s1.heap.objs.size + 2) (s1.heap.objs.size + 3) s1.heap.objs.size (s1.heap.objs.size + 1) a a' := by
      constructor <;> first | exact Nat.ne_of_lt (by omega) | exact Nat.ne_of_gt (by omega) | exact na 0 | exact na 1 | exact na 2 | exact na 3 | exact na 4 | exact na' 0 | exact na' 1 | exact na' 2 | exact na' 3 | exact na' 4
    have hS : ∀ {j}, j < s1.heap.objs.size + 5 → j ≠ h'.objs.size := fun hj => by rw [hsz]; exact Nat.ne_of_lt hj
    have alt := Heap.lt_size ho
    have alt' := Heap.lt_size ho'
    have hbig : big = 1000000 := rfl
    have hsl := sizeLine_eq
    rw [zipD_len] at hl
    refine wpAny_mono (tg_call (s := { s1 with heap := h' }) (TG.zip (prog := U.prog) (w := U.w) (xs := vs) (ys := vs') D (hS (by omega)) (hS (by omega)) (hS (by omega)) (hS (by omega)) (hS (by omega)) (hS (Nat.lt_of_lt_of_le alt (Nat.le_add_right _ _))) (hS (Nat.lt_of_lt_of_le alt' (Nat.le_add_right _ _)))) hR.hand (by omega) (by rw [zipD_len, ← hlen, ← hlen']) (fun i vals d hd ⟨x, y, hx, hy, hv⟩ => ?_) (fun b hb => ?_) (x1.trans x2) (fun b hb => ?_) ⟨hTI, hi1, hi2, hL.at fun o e => hk _ _ e, hL'.at fun o e => hk _ _ e, ⟨_, _, hTO⟩, .inl hz⟩) (fun _ _ q => q) fun _ _ f => f
    · obtain ⟨a0, b0, ha0, hb0, rfl⟩ := zipD_get ll mm i d hd
      refine bC fun z_ => ?_
      (obtain ⟨v', hv', rv⟩ := rl.get ha0) <;> refine z_ ?_ <;> clear z_
      refine bC fun z_ => ?_
      (obtain ⟨u', hu', ru⟩ := rl'.get hb0) <;> refine z_ ?_ <;> clear z_
      rw [Array.getElem?_toList, hx] at hv'
      rw [Array.getElem?_toList, hy] at hu'
      cases hv'; cases hu'
      subst hv
      exact ⟨_, rfl, RepL.cons rv (RepL.cons ru RepL.nil)⟩
    · simp only [List.mem_cons, List.not_mem_nil, or_false] at hb
      rcases hb with rfl | rfl | rfl | rfl
      · exact old_none x1 (nn 4)
      · exact old_none x1 (nn 3)
      · exact old_none x1 (nn 0)
      · exact old_none x1 (nn 1)
    · simp only [List.mem_cons, List.not_mem_nil, or_false] at hb
      rcases hb with rfl | rfl | rfl | rfl
      · exact PH.fresh x1.sub (nn 4)
      · exact PH.fresh x1.sub (nn 3)
      · exact PH.fresh x1.sub (nn 0)
      · exact PH.fresh x1.sub (nn 1)
/- a dict's keys as a list -/
theorem Snd.listDict {nm : Str} {e : Expr} {y : X} {p pos : Pos} (b : BltIn U Z nm (.type "list")) (h : Snd U l C Z e y) (hp : notStar e = true) : Snd U l C Z (.Call (.Name nm p) [e] [] pos) (.keysOf y) := by
  intro A env s G r d hE hR hB R q
  obtain ⟨d1, e1, q⟩ := bsome q
  obtain ⟨m, h_, q⟩ := bsome q
  have h_ := asM_inv h_; subst h_
  obtain ⟨hl, rfl⟩ := lenOk_some q
  refine typ_call b hE hB (one_plain hp) (by simp) (one_arg h hp hE hR hB R e1 fun v s1 G1 x1 r1 => ?_)
  simp only [Rep] at r1; obtain ⟨a, o, kvs, rfl, g, io, z, rm⟩ := r1
  obtain ⟨ep, hat⟩ := (io.at (prog := U.prog) (w := U.w) (x1.sub _ _ g)).dictAt
  have hlen := rm.length
  have hbig : big = 1000000 := rfl
  have hsl := sizeLine_eq
  refine kdl_call (kdl_dict (knd := intKind U.prog U.w) (kvs := kvs) (ep := ep) z) hR.hand hat (by omega) fun h' tk acc' c' hk hS hI => ?_
  have x2 := ExtE.grow (tk := tk) x1.sub hk
  have n0 : s1.heap.get? s1.heap.objs.size = Option.none := fresh_none (Nat.le_refl _)
  have gS : G1 s1.heap.objs.size = Option.none := PH.fresh x1.sub n0
  refine ⟨_, (x1.trans x2).keepNew (old_none x1 n0) gS hS, ?_⟩
  simp only [Rep]
  refine ⟨_, _, _, rfl, PH.put_self _ _ _, ?_⟩
  refine RepL.of_get (by rw [List.length_map, Array.length_toList (xs := acc'), hI.1]; exact hlen.symm) fun i d v hd hv => ?_
  rw [List.getElem?_map, Option.map_eq_some_iff] at hd
  refine bC fun z_ => ?_
  (obtain ⟨p, hp, rfl⟩ := hd) <;> refine z_ ?_ <;> clear z_
  rw [Array.getElem?_toList] at hv
  refine bC fun z_ => ?_
  (obtain ⟨k, x, hk, hkey⟩ := hI.2 i v hv) <;> refine z_ ?_ <;> clear z_
  obtain ⟨t, rfl⟩ := Value.isInt_shape hkey
  obtain ⟨h1, _⟩ := rm.get hp hk
  simp only [Rep]; exact ⟨t, by rw [h1]⟩
end
end Mine
end

/- part ES -/
section
open PySem PySem.W PyProof.Rows PySem.Calls PySem.Spec PyProof.V PySem.Builtin PySem.Builtin.Str
set_option maxRecDepth 100000
namespace Mine
noncomputable def kRun {α : Type} (f : Nat → Nat → Bool) : KasT α → α
  | .ret a => a
  | .ask i j k => kRun f (k (f i j))
noncomputable def kFits {α : Type} (f : Nat → Nat → Bool) (n : Nat) : KasT α → Bool
  | .ret _ => true
  | .ask i j k => decide (i < n) && decide (j < n) && decide (i ≠ j) && kFits f n (k (f i j))
theorem kas_runs_pure {α : Type} {f : Nat → Nat → Bool} {n : Nat} {cmp : Nat → Nat → (Bool → Shared → Prop) → Shared → Prop} {s : Shared} (hc : ∀ i j C, i < n → j < n → i ≠ j → C (f i j) s → cmp i j C s) {Q : α → Shared → Prop} :
    ∀ (t : KasT α), kFits f n t = true → Q (kRun f t) s → t.kasWp cmp Q s
  | .ret _, _, h => h
  | .ask i j k, hf, h => by
    simp only [kFits, Bool.and_eq_true, decide_eq_true_eq] at hf
    exact hc i j _ hf.1.1.1 hf.1.1.2 hf.1.2 (kas_runs_pure hc (k (f i j)) hf.2 h)
noncomputable abbrev keyLess (ks : List Int) (i j : Nat) : Bool := decide (ks.getD i 0 < ks.getD j 0)
noncomputable def sortP (ks : List Int) : List Nat := if ks.length < 2 then List.range ks.length else (kRun (keyLess ks) (kas_sort ks.length)).toList
theorem sort_fits : ∀ ks ∈ sortKeys, kFits (keyLess ks) ks.length (kas_sort ks.length) = true := by decide +kernel
theorem sort_nodup : ∀ ks ∈ sortKeys, ks.Nodup := by decide +kernel
theorem sort_small : ∀ ks ∈ sortKeys, 0 < ks.length ∧ ks.length < 64 := by decide +kernel
/- pairs in the heap, by their keys -/
noncomputable def Prs (h : Heap) (ks : List Int) (as : List Addr) : Prop := as.length = ks.length ∧ ∀ (j : Nat) a k, as[j]? = some a → ks[j]? = some k → ∃ t x, h.get? a = some (tupO #[.int k t, x] 0)
theorem Prs.keep {h h' : Heap} {ks : List Int} {as : List Addr} (p : Prs h ks as) (k : ∀ a ∈ as, ∀ o, h.get? a = some o → h'.get? a = some o) : Prs h' ks as :=
  ⟨p.1, fun j a q e1 e2 => let ⟨t, x, e⟩ := p.2 j a q e1 e2; ⟨t, x, k a (List.mem_of_getElem? e1) _ e⟩⟩
theorem Prs.tups {h : Heap} : ∀ {ks : List Int} {as : List Addr}, Prs h ks as → ∃ fs, KatTups h (as.map Value.ref) fs ∧ fs.length = ks.length ∧ ∀ v ∈ fs, ∃ k t, v = .int k t
  | [], [], _ => ⟨[], KatTups.nil, rfl, fun _ h => by cases h⟩
  | [], _ :: _, p => by have := p.1; simp at this
  | _ :: _, [], p => by have := p.1; simp at this
  | k :: ks, a :: as, p => by
    refine bC fun z_ => ?_
    (obtain ⟨t, x, e⟩ := p.2 0 a k rfl rfl) <;> refine z_ ?_ <;> clear z_
    obtain ⟨fs, f1, f2, f3⟩ := Prs.tups (ks := ks) (as := as) ⟨by have := p.1; simpa using this, fun j b q e1 e2 => p.2 (j + 1) b q (by simpa using e1) (by simpa using e2)⟩
    refine ⟨.int k t :: fs, KatTups.cons e rfl rfl rfl f1, by simp [f2], fun v hv => ?_⟩
    rcases List.mem_cons.mp hv with rfl | hv
    · exact ⟨k, t, rfl⟩
    · exact f3 v hv
section
variable {prog : Program} {w : World} {A : Around} {E : Value → Shared → Prop} {s : Shared}
theorem prs_ask {ks : List Int} {as : List Addr} (p : Prs s.heap ks as) (nd : ks.Nodup) {i j : Nat} {C : Bool → Shared → Prop} (hi : i < ks.length) (hj : j < ks.length) (hij : i ≠ j) (h : C (keyLess ks i j) s) : kas_ask prog w A (tuples' true) (as.map Value.ref) i j C s := by
  unfold kas_ask
  have hai : i < as.length := by rw [p.1]; exact hi
  have haj : j < as.length := by rw [p.1]; exact hj
  have ei : as[i]? = some as[i] := List.getElem?_eq_getElem hai
  have ej : as[j]? = some as[j] := List.getElem?_eq_getElem haj
  have ki : ks[i]? = some ks[i] := List.getElem?_eq_getElem hi
  have kj : ks[j]? = some ks[j] := List.getElem?_eq_getElem hj
  refine bC fun z_ => ?_
  (obtain ⟨t, x, hx⟩ := p.2 i _ _ ei ki) <;> refine z_ ?_ <;> clear z_
  refine bC fun z_ => ?_
  (obtain ⟨u, y, hy⟩ := p.2 j _ _ ej kj) <;> refine z_ ?_ <;> clear z_
  have e1 : (as.map Value.ref).getD i Value.none = .ref as[i] := by simp [List.getD, ei]
  have e2 : (as.map Value.ref).getD j Value.none = .ref as[j] := by simp [List.getD, ej]
  rw [e1, e2]
  refine kat_lt hx rfl hy rfl ?_
  have hne : (ks[i] == ks[j]) = false := by
    rw [beq_eq_false_iff_ne]
    intro q
    rcases Nat.lt_or_gt_of_ne hij with h | h
    · exact List.pairwise_iff_getElem.mp nd i j hi hj h q
    · exact List.pairwise_iff_getElem.mp nd j i hj hi h q.symm
  refine kat_cons (wpAny_eqBool_int ?_)
  rw [hne]
  refine kat_no ?_
  show wpAny _ _ (oneLt' true _ _) _ _ _
  refine oneLt_int ?_
  have : keyLess ks i j = decide (ks[i] < ks[j]) := by simp [keyLess, List.getD, ki, kj]
  rw [← this]
  exact h
theorem sort_pairs {a : Addr} {n : Nat} {ks : List Int} {as : List Addr} {P : PySem.Fin → Shared → Prop} (p : Prs s.heap ks as) (hK : ks ∈ sortKeys) (haa : a ∉ as) (ho : s.heap.get? a = some (seqObj "list" (as.map Value.ref).toArray n))
    (h : ∀ h' c, (∀ b o, b ≠ a → s.heap.get? b = some o → h'.get? b = some o) → h'.get? a = some (seqObj "list" ((sortP ks).map fun i => (as.map Value.ref).getD i Value.none).toArray c) → P (.done (.ret .none)) { s with heap := h' }) :
    wpAny (model prog w) A (Builtin.«list.sort» ⟨[.ref a], []⟩) P E s := by
  have ha : a < s.heap.objs.size := Heap.lt_size ho
  have hsm := sort_small ks hK
  have hvl : (as.map Value.ref).length = ks.length := by rw [List.length_map]; exact p.1
  generalize hvs : as.map Value.ref = vs at *
  obtain ⟨e1, ho1⟩ : ∃ e1, (s.heap.update a (Obj.mapSeq fun _ => (#[] : Array Value))).get? a = some (seqObj "list" #[] e1) := ⟨_, get?_update_seq ho fun _ => #[]⟩
  have keep1 : ∀ b o, b ≠ a → s.heap.get? b = some o → (((s.heap.update a (Obj.mapSeq fun _ => (#[] : Array Value))).push (seqObj "tuple" vs.toArray 0)).push (seqObj "list" #[] 0)).get? b = some o := fun b o hb e =>
    Heap.get?_push_of_some _ (Heap.get?_push_of_some _ ((Heap.get?_update_other _ _ (Ne.symm hb)).trans e))
  have p1 := p.keep (h' := ((s.heap.update a (Obj.mapSeq fun _ => (#[] : Array Value))).push (seqObj "tuple" vs.toArray 0)).push (seqObj "list" #[] 0)) fun b hb o e => keep1 b o (fun q => haa (q ▸ hb)) e
  have ho2 : (((s.heap.update a (Obj.mapSeq fun _ => (#[] : Array Value))).push (seqObj "tuple" vs.toArray 0)).push (seqObj "list" #[] 0)).get? a = some (seqObj "list" #[] e1) := Heap.get?_push_of_some _ (Heap.get?_push_of_some _ ho1)
  rw [list_sort_plain]
  refine wpAny_bind (listItems_at ho rfl ?_)
  refine wpAny_bind (listUpdate_at ho rfl ?_ (by rw [List.size_toArray, sizeLine_eq]; omega) (Nat.zero_le _))
  refine wpAny_bind (seqEpoch_at ho1 rfl ?_)
  refine wpAny_bind (wpAny_newTuple ?_ (by show vs.length ≤ _; rw [sizeLine_eq]; omega))
  refine wpAny_bind (wpAny_newList ?_ (Nat.zero_le _))
  refine wpAny_holding ?_
  show wpAny (model prog w) A _ P E { s with heap := ((s.heap.update a (Obj.mapSeq fun _ => (#[] : Array Value))).push (seqObj "tuple" vs.toArray 0)).push (seqObj "list" #[] 0) }
  generalize hH : ((s.heap.update a (Obj.mapSeq fun _ => (#[] : Array Value))).push (seqObj "tuple" vs.toArray 0)).push (seqObj "list" #[] 0) = H at *
  dsimp only
  have fin : ∀ (p' : List Nat) (st' : SortSt), (arrOf st').map (·.2) = (p'.map fun i => vs.getD i Value.none).toArray → p'.length = vs.length → p' = sortP ks → failedOf st' = none →
      wpAny (model prog w) A (do
        let sorted := (arrOf st').map (·.2)
        let touched := (← seqEpoch a) != e1
        Builtin.List.listUpdate (.ref a) fun _ => sorted
        if let some e := failedOf st' then rule "list.sort.comparison-raised"; throw e
        if touched then rule "list.sort.modified"; raiseError "ValueError" "list modified during sort"
        ret .none) P E { s with heap := H } := by
    intro p' st' hout hl hpe hf
    rw [hout]
    obtain ⟨c2, hc2⟩ : ∃ c2, (H.update a (Obj.mapSeq fun _ => (p'.map fun i => vs.getD i Value.none).toArray)).get? a = some (seqObj "list" (p'.map fun i => vs.getD i Value.none).toArray c2) := ⟨_, get?_update_seq ho2 fun _ => _⟩
    refine wpAny_bind (seqEpoch_at ho2 rfl ?_)
    refine wpAny_bind (listUpdate_at ho2 rfl ?_ (Nat.zero_le _) (by rw [List.size_toArray, List.length_map, hl, sizeLine_eq]; omega))
    rw [hf]
    simp only [bne_self_eq_false, Bool.false_eq_true, if_false]
    refine wpAny_pure (h _ c2 (fun b o hb e => (Heap.get?_update_other _ _ (Ne.symm hb)).trans (keep1 b o hb e)) ?_)
    rw [← hpe]
    exact hc2
  by_cases h2 : vs.length < 2
  · have hn2 : vs.toArray.size < 2 := by rw [List.size_toArray]; exact h2
    rw [if_pos hn2, if_pos hn2]
    refine wpAny_bind (wpAny_pure ?_)
    refine wpAny_bind (wpAny_pure ?_)
    refine fin (List.range ks.length) _ ?_ (by rw [List.length_range, hvl]) ?_ rfl
    · have : vs.length = 1 := by omega
      obtain ⟨v, rfl⟩ := List.length_eq_one_iff.mp this
      have hk1 : ks.length = 1 := by omega
      rw [hk1]
      show Array.map (·.2) ((#[v] : Array Value).zip #[v]) = _
      simp [List.range_succ]
    · unfold sortP; rw [if_pos (by omega)]
  · have hn2 : ¬ vs.toArray.size < 2 := by rw [List.size_toArray]; exact h2
    rw [if_neg hn2, if_neg hn2]
    refine bC fun z_ => ?_
    (obtain ⟨fs, f1, f2, f3⟩ := p1.tups) <;> refine z_ ?_ <;> clear z_
    rw [hvs] at f1
    refine wpAny_bind (kat_kind (T := .type "int") f1 (by omega) (fun v hv => ?_) (by decide) ?_)
    · obtain ⟨k, t, rfl⟩ := f3 v hv
      exact (Looks.now : Looks (model prog w) H (pure (Value.type "int")) _)
    refine wpAny_bind (wpAny_mono (kat_run (prog := prog) (w := w) (κ := tuples' true) (vs := vs) (ks := vs) (Q := fun st' s' => ∃ p : Array Nat, p.size = vs.length ∧ arrOf st' = p.map (kas_item (vs.toArray.zip vs.toArray)) ∧ failedOf st' = none ∧ p.toList = sortP ks ∧ s' = { s with heap := H })
      (G := fun p s' => p.toList = sortP ks ∧ s' = { s with heap := H }) rfl (by omega) (by omega) (fun p' st' s' a1 a2 a3 a4 => ⟨p', a1, a2, a3, a4.1, a4.2⟩) ?_) ?_ fun _ _ e => e)
    · rw [hvl]
      refine kas_runs_pure (n := ks.length) (f := keyLess ks) (fun i j C hi hj hij hc => ?_) _ (sort_fits ks hK) ⟨by unfold sortP; rw [if_neg (by omega)], rfl⟩
      rw [← hvs]
      exact prs_ask (s := { s with heap := H }) p1 (sort_nodup ks hK) hi hj hij hc
    · rintro ⟨⟨⟩, st'⟩ s' ⟨p', hp1, hp2, hp3, hp4, rfl⟩
      dsimp only
      have hout := kat_snds rfl hp2
      exact fin p'.toList st' hout (by rw [Array.length_toList, hp1]) hp4 hp3
end
end Mine
end

/- part ET -/
section
open PySem PySem.W PyProof.Rows PySem.Calls PySem.Spec PyProof.V PySem.Builtin PySem.Builtin.Str
set_option maxRecDepth 100000
namespace Mine
theorem sortP_1 : sortP [3, 2, 1, 0] = [3, 2, 1, 0] := by decide +kernel
theorem sortP_2 : sortP [2, 1, 0, 3] = [2, 1, 0, 3] := by decide +kernel
theorem sortP_3 : sortP [2, 1, 0] = [2, 1, 0] := by decide +kernel
theorem sortP_4 : sortP [1, 0] = [1, 0] := by decide +kernel
theorem sortP_5 : sortP [0] = [0] := by decide +kernel
theorem sortD_P {m : List (Int × D)} (h : m.map (·.1) ∈ sortKeys) : sortD m = (sortP (m.map (·.1))).map fun i => m.getD i (0, .none) := by
  simp only [sortKeys, List.mem_cons, List.not_mem_nil, or_false] at h
  rcases h with h | h | h | h | h <;> rw [h] <;> simp only [List.map_eq_cons_iff, List.map_eq_nil_iff] at h
  · obtain ⟨⟨_, d1⟩, _, rfl, rfl, ⟨_, d2⟩, _, rfl, rfl, ⟨_, d3⟩, _, rfl, rfl, ⟨_, d4⟩, _, rfl, rfl, rfl⟩ := h
    rw [sortP_1]; simp [sortD, sortIns]
  · obtain ⟨⟨_, d1⟩, _, rfl, rfl, ⟨_, d2⟩, _, rfl, rfl, ⟨_, d3⟩, _, rfl, rfl, ⟨_, d4⟩, _, rfl, rfl, rfl⟩ := h
    rw [sortP_2]; simp [sortD, sortIns]
  · obtain ⟨⟨_, d1⟩, _, rfl, rfl, ⟨_, d2⟩, _, rfl, rfl, ⟨_, d3⟩, _, rfl, rfl, rfl⟩ := h
    rw [sortP_3]; simp [sortD, sortIns]
  · obtain ⟨⟨_, d1⟩, _, rfl, rfl, ⟨_, d2⟩, _, rfl, rfl, rfl⟩ := h
    rw [sortP_4]; simp [sortD, sortIns]
  · obtain ⟨⟨_, d1⟩, _, rfl, rfl, rfl⟩ := h
    rw [sortP_5]; simp [sortD, sortIns]
theorem sortP_lt : ∀ ks ∈ sortKeys, ∀ i ∈ sortP ks, i < ks.length := by decide +kernel
theorem frz_tups {s s' : Shared} {G : PH} : ∀ (as : List Addr) (lss : List (List D)) (G' : PH), as.Pairwise (· < ·) → (∀ a ∈ as, s.heap.get? a = none ∧ G' a = none) → as.length = lss.length →
    (∀ (j : Nat) a ls, as[j]? = some a → lss[j]? = some ls → ∃ vals, s'.heap.get? a = some (tupO vals 0) ∧ RepL G' ls vals.toList) → ExtE s s' G G' →
    ∃ G'', ExtE s s' G G'' ∧ G'.le G'' ∧ RepL G'' (lss.map D.tup) (as.map Value.ref) ∧ ∀ b, b ∉ as → G'' b = G' b
  | [], [], G', _, _, _, _, x => ⟨G', x, PH.le.refl _, RepL.nil, fun _ _ => rfl⟩
  | [], _ :: _, _, _, _, h, _, _ => by simp at h
  | _ :: _, [], _, _, _, h, _, _ => by simp at h
  | a :: as, ls :: lss, G', hp, ha, hl, hv, x => by
    refine bC fun z_ => ?_
    (obtain ⟨vals, h1, h2⟩ := hv 0 a ls rfl rfl) <;> refine z_ ?_ <;> clear z_
    obtain ⟨h3, h4⟩ := ha a (.head _)
    have hp' := List.pairwise_cons.mp hp
    have x1 := x.keepNew h3 h4 h1
    have hne : ∀ b ∈ as, b ≠ a := fun b hb => Nat.ne_of_gt (hp'.1 b hb)
    obtain ⟨G'', y1, y2, y3, y4⟩ := frz_tups as lss (G'.put a (tupO vals 0)) hp'.2 (fun b hb => ⟨(ha b (.tail _ hb)).1, by simp only [PH.put]; rw [if_neg (hne b hb)]; exact (ha b (.tail _ hb)).2⟩) (by simpa using hl)
      (fun j b q e1 e2 => let ⟨vs, f1, f2⟩ := hv (j + 1) b q (by simpa using e1) (by simpa using e2); ⟨vs, f1, f2.mono (PH.le_put h4)⟩) x1
    refine ⟨G'', y1, (PH.le_put h4).trans y2, RepL.cons ?_ y3, fun b hb => ?_⟩
    · simp only [Rep]
      exact ⟨a, vals, 0, rfl, y2 _ _ (PH.put_self _ _ _), h2.mono ((PH.le_put h4).trans y2)⟩
    · have hb' : b ∉ as ∧ b ≠ a := ⟨fun q => hb (.tail _ q), fun q => hb (by rw [q]; exact .head _)⟩
      rw [y4 b hb'.1]
      simp only [PH.put]; rw [if_neg hb'.2]
theorem RepL.pick {G : PH} {ds : List D} {vs : List Value} (r : RepL G ds vs) : ∀ (p : List Nat), (∀ i ∈ p, i < ds.length) → RepL G (p.map fun i => ds.getD i .none) (p.map fun i => vs.getD i .none)
  | [], _ => RepL.nil
  | i :: p, h => by
    have hi := h i (.head _)
    obtain ⟨v, hv, rv⟩ := r.get (List.getElem?_eq_getElem hi)
    refine RepL.cons ?_ (RepL.pick r p fun j hj => h j (.tail _ hj))
    have e1 : ds.getD i .none = ds[i] := by simp [List.getD, List.getElem?_eq_getElem hi]
    have e2 : vs.getD i .none = v := by simp [List.getD, hv]
    show Rep G (ds.getD i .none) (vs.getD i .none)
    rw [e1, e2]; exact rv
section
variable {U : U0} {l : Nat} {C : Cx} {Z : Zz}
theorem items_view {e : Expr} {y : X} {ap cp : Pos} {A : Around} {env : Env} {s : Shared} {G : PH} {r : Rho} {m : List (Int × D)} (pl : Env → Sem Bool) (h : Snd U l C Z e y)
    (he : ∀ env, eval (.Call (.Attribute e (Str.ofString "items") ap) [] [] cp) env = (do
      let ov ← eval e env
      standAt ap.atName
      let (f, first) ← holding [ov] (getMethod ov (Str.ofString "items") (pl env))
      callWith cp f first (backTo cp (starEach [] env)) [])) (hE : EnvOk Z env) (hR : Room A l) (hB : U.Base s.heap) (R : SRel Z env r G s.heap) (q : ev C r y = some (.dict m)) {Q : Value → Shared → Prop} {E : Value → Shared → Prop}
    (k : ∀ V a kvs ep s' G', ExtE s s' G G' → s'.heap.IsItemsView V a → s'.heap.DictAt (intKind U.prog U.w) a kvs ep → RepM G' m kvs → Q (.ref V) s') :
    wpAny (model U.prog U.w) A (eval (.Call (.Attribute e (Str.ofString "items") ap) [] [] cp) env) Q E s := by
  refine MethodCall_ (pl := pl env) ((h A env s G r _ hE hR hB R q).use fun v s1 G1 x1 r1 => ?_) (he env)
  simp only [Rep] at r1; obtain ⟨a, o, kvs, rfl, g, io, z, rm⟩ := r1
  have ho := x1.sub _ _ g
  obtain ⟨ep, hat⟩ := (io.at (prog := U.prog) (w := U.w) ho).dictAt
  have hT : s1.TypeIs (.ref a) "dict" := hat.dictOf.typeIs
  have hnd : ∀ b, Value.ref a = .ref b → ∃ ob, s1.heap.get? b = some ob ∧ ob.dict = none := fun b eb => by cases eb; exact ⟨_, ho, by obtain ⟨_, _, ed, _⟩ := io; exact ed.2.1⟩
  refine getMethod_builtin hT PySem.F.plainAttrs_dict PySem.F.slot_dict_items PySem.F.type_dict_items hnd ?_
  refine callWith_builtin rfl (PySem.evalArgs_none ?_)
  refine call_meetsIn PySem.F.slot_dict_items hT PySem.F.entry_dict_items (PySem.F.args_dict_items_1 _) (meets_dict_items (intKind U.prog U.w) a z) ⟨⟨kvs, hat.dictOf⟩, ?_⟩
  have x2 := ExtE.push' (s := s1) (G := G1) (o := { cls := .type "dict_items", data := .fields #[.ref a] }) x1.sub
  have hat2 := hat.push { cls := .type "dict_items", data := .fields #[.ref a] }
  exact k _ a kvs ep _ G1 (x1.trans x2) ⟨_, Heap.get?_push_size _ rfl, rfl, rfl⟩ hat2 rm
theorem Snd.sorted {nm : Str} {e : Expr} {y : X} {ap cp p pos : Pos} (b : BltIn U Z nm (.builtin "sorted")) (pl : Env → Sem Bool) (h : Snd U l C Z e y)
    (he : ∀ env, eval (.Call (.Attribute e (Str.ofString "items") ap) [] [] cp) env = (do
      let ov ← eval e env
      standAt ap.atName
      let (f, first) ← holding [ov] (getMethod ov (Str.ofString "items") (pl env))
      callWith cp f first (backTo cp (starEach [] env)) [])) : Snd U l C Z (.Call (.Name nm p) [.Call (.Attribute e (Str.ofString "items") ap) [] [] cp] [] pos) (.sorted y) := by
  intro A env s G r d hE hR hB R q
  obtain ⟨d1, e1, q⟩ := bsome q
  obtain ⟨m, h_, q⟩ := bsome q
  have h_ := asM_inv h_; subst h_
  obtain ⟨hk, q⟩ := isome q
  cases q
  have hK : m.map (·.1) ∈ sortKeys := by simpa using hk
  refine blt_call b hE hB (one_plain rfl) (by simp) (wpAny_items_cons ?_ (starEach_plain rfl))
  refine items_view pl h he hE hR hB R e1 fun V a kvs ep s1 G1 x1 hV hat rm => wpAny_items_nil ?_
  have hsm := sort_small _ hK
  rw [List.length_map] at hsm
  have hlen := rm.length
  have hsl := sizeLine_eq
  refine Calls.call_function_entry kind_sorted plain_sorted entry_sorted (args_sorted1 _) ?_
  unfold Builtin.«sorted»
  refine wpAny_bind (m := checkCount "sorted" 1 1 _) (wpAny_pure ?_)
  refine wpAny_bind (kdx_collect (knd := intKind U.prog U.w) hR.hand hV hat (by omega) fun h' tk as hk' hal hG => ?_)
  refine wpAny_bind (wpAny_newList ?_ (by rw [List.length_map]; omega))
  have hp : Prs h' (m.map (·.1)) as := ⟨by rw [List.length_map, hal]; exact hlen, fun j a' k e1 e2 => by
    refine bC fun z_ => ?_
    (obtain ⟨key, k', x, f1, f2, f3⟩ := hG.pairs j a' e1) <;> refine z_ ?_ <;> clear z_
    obtain ⟨t, rfl⟩ := Value.isInt_shape f2
    rw [List.getElem?_map, Option.map_eq_some_iff] at e2
    refine bC fun z_ => ?_
    (obtain ⟨p, g1, g2⟩ := e2) <;> refine z_ ?_ <;> clear z_
    have := (rm.get g1 f1).1
    rw [g2] at this
    subst this
    exact ⟨t, x, f3⟩⟩
  have hD : (h'.push (seqObj "list" (as.map Value.ref).toArray 0)).get? h'.objs.size = some (seqObj "list" (as.map Value.ref).toArray 0) := Heap.get?_push_size _ rfl
  have hal' : ∀ a' ∈ as, a' < h'.objs.size := fun a' ha => hG.there ha
  refine wpAny_bind (wpAny_holding (wpAny_call_entry slot_list_sort ⟨_, hD, rfl⟩ entry_list_sort ?_ (args_list_sort _)))
  refine sort_pairs (s := { s1 with heap := h'.push (seqObj "list" (as.map Value.ref).toArray 0), toks := tk }) (hp.keep fun a' _ o e => Heap.get?_push_of_some _ e) hK (fun q => Nat.lt_irrefl _ (hal' _ q)) hD fun h'' c hk'' hD'' => ?_
  refine ⟨_, rfl, wpAny_pure ⟨_, rfl, ?_⟩⟩
  have ne : ∀ {b o}, h'.get? b = some o → b ≠ h'.objs.size := fun e => Nat.ne_of_lt (Heap.lt_size e)
  have up : ∀ b o, h'.get? b = some o → h''.get? b = some o := fun b o e => hk'' b o (ne e) (Heap.get?_push_of_some _ e)
  have x2 : ExtE s1 { s1 with heap := h'', toks := tk } G1 G1 := ExtE.grow (tk := tk) x1.sub fun b o e => up b o (hk' b o e)
  have x3 := x1.trans x2
  have fresh1 : ∀ a' ∈ as, s1.heap.get? a' = Option.none := fun a' ha => fresh_none (Nat.le_of_lt (hG.above a' ha))
  obtain ⟨G2, y1, y2, y3, y4⟩ := frz_tups (s := s) (s' := { s1 with heap := h'', toks := tk }) (G := G) as (m.map fun p => [.int p.1, p.2]) G1 hG.rise (fun a' ha => ⟨old_none x1 (fresh1 a' ha), PH.fresh x1.sub (fresh1 a' ha)⟩) (by rw [List.length_map, hal]; exact hlen)
    (fun j a' ls f1 f2 => by
      rw [List.getElem?_map, Option.map_eq_some_iff] at f2
      refine bC fun z_ => ?_
      (obtain ⟨p, g1, rfl⟩ := f2) <;> refine z_ ?_ <;> clear z_
      refine bC fun z_ => ?_
      (obtain ⟨key, k', x, f3, f4, f5⟩ := hG.pairs j a' f1) <;> refine z_ ?_ <;> clear z_
      obtain ⟨t, rfl⟩ := Value.isInt_shape f4
      obtain ⟨h1, h2⟩ := rm.get g1 f3
      refine ⟨_, up _ _ f5, RepL.cons ?_ (RepL.cons h2 RepL.nil)⟩
      simp only [Rep]; exact ⟨t, by rw [h1]⟩) x3
  have hD1 : s1.heap.get? h'.objs.size = Option.none := by
    cases q : s1.heap.get? h'.objs.size with
    | none => rfl
    | some o => exact absurd rfl (ne (hk' _ _ q))
  have gD : G2 h'.objs.size = Option.none := by rw [y4 _ (fun q => Nat.lt_irrefl _ (hal' _ q))]; exact PH.fresh x1.sub hD1
  refine ⟨_, y1.keepNew (old_none x1 hD1) gD hD'', ?_⟩
  simp only [Rep]
  refine ⟨_, _, _, rfl, PH.put_self _ _ _, ?_⟩
  rw [sortD_P hK]
  have hpk := y3.pick (sortP (m.map (·.1))) fun i hi => by rw [List.length_map, List.length_map]; have := sortP_lt _ hK i hi; rwa [List.length_map] at this
  have e : (sortP (m.map (·.1))).map (fun i => ((m.map fun p => [D.int p.1, p.2]).map D.tup).getD i .none) = ((sortP (m.map (·.1))).map fun i => m.getD i (0, .none)).map pairD := by
    rw [List.map_map, List.map_map]
    refine List.map_congr_left fun i hi => ?_
    have hi' := sortP_lt _ hK i hi
    rw [List.length_map] at hi'
    simp [List.getD, List.getElem?_eq_getElem hi', pairD]
  rw [e] at hpk
  exact hpk.mono (PH.le_put gD)
end
end Mine
end

/- part EU -/
section
open PySem PySem.W PyProof.Rows PySem.Calls PySem.Spec PyProof.V PySem.Builtin PySem.Builtin.Str
set_option maxRecDepth 10000
namespace Mine
section
variable {U : U0} {l : Nat} {C : Cx} {Z : Zz}
theorem SndB.cmp2 {a b c : Expr} {op op' : CO} {x y z : X} {o o' : CmpOp} {pos : Pos} (h1 : Snd U l C Z a x) (h2 : Snd U l C Z b y) (h3 : Snd U l C Z c z) (hl : 1 ≤ l) (ho : o = op.op) (ho' : o' = op'.op) (hm : lastMarks [o, o'] [b, c] = false) :
    SndB U l C Z (.Compare a [o, o'] [b, c] pos) (.plain (.cmp2 op op' x y z)) := by
  intro A env s G r w hE hR hB R e
  subst ho; subst ho'
  obtain ⟨d', k_, e'⟩ := bsome e
  obtain ⟨d1, e1, k_⟩ := bsome k_
  obtain ⟨d2, e2, k_⟩ := bsome k_
  obtain ⟨t, e3, e⟩ := bsome k_
  refine isTrue_chain ((h1 A env s G r d1 hE hR hB R e1).use fun v1 s1 G1 x1 r1 => test_link ((h2 A env s1 G1 r d2 hE hR (hB.keeps x1.keep) (R.ext x1) e2).use fun v2 s2 G2 x2 r2 => ?_)) hm
  refine cmpD_ok (hR.le hl) x2.sub (r1.mono x2.le) r2 e3 (wpAny_truthy_bool ?_)
  cases t with
  | false =>
    have e := Option.some.inj e
    subst e
    have e' := Option.some.inj e'
    exact ⟨e', G2, x1.trans x2⟩
  | true =>
    obtain ⟨d3, e4, k_⟩ := bsome e
    obtain ⟨t', e5, e⟩ := bsome k_
    have e := Option.some.inj e; subst e
    have e' := Option.some.inj e'; subst e'
    have x12 := x1.trans x2
    refine test_last ((h3 A env s2 G2 r d3 hE hR (hB.keeps x12.keep) (R.ext x12) e4).use fun v3 s3 G3 x3 r3 => ?_)
    exact cmpD_ok (hR.le hl) x3.sub (r2.mono x3.le) r3 e5 (wpAny_truthy_bool ⟨rfl, G3, x12.trans x3⟩)
end
end Mine
end

/- part EV -/
section
open PySem PySem.W PyProof.Rows PySem.Calls PySem.Spec PyProof.V PySem.Builtin PySem.Builtin.Str
set_option maxRecDepth 100000
namespace Mine
section
variable {prog : Program} {w : World} {A : Around} {E : Value → Shared → Prop} {s : Shared}
/- one item drawn out of a tuple -/
theorem draw_tup {it t : Addr} {i : Nat} {items : Array Value} {x : Value} {Q : Value → Shared → Prop} (hit : s.heap.IsTupleIter it t i) (ht : s.heap.IsTuple t items) (hx : items[i]? = some x)
    (hQ : ∀ h', h'.IsTupleIter it t (i + 1) → Heap.SameBut it s.heap h' → Q x { s with heap := h' }) : wpAny (model prog w) A (Builtin.SmallTypes.nextOf (.ref it)) Q E s := by
  refine bC fun z_ => ?_
  (obtain ⟨o, ho, hc, hd⟩ := id hit) <;> refine z_ ?_ <;> clear z_
  refine bC fun z_ => ?_
  (obtain ⟨ol, hol, _, nl, hdl⟩ := ht) <;> refine z_ ?_ <;> clear z_
  unfold Builtin.SmallTypes.nextOf
  refine wpAny_bind (wpAny_callSpecial?_slot (name := Str.ofString "__next__") hit.typeIs PySem.F.slot_tuple_iterator_next
    (wpAny_call_entry PySem.F.slot_tuple_iterator_next hit.typeIs PySem.F.entry_tuple_iterator_next ?_ (PySem.F.args_tuple_iterator_next_1 _)))
  show wpAny _ _ (field (.ref it) 0 >>= _) _ _ s
  refine wpAny_bind (wpAny_field ho hd (x := .ref t) rfl ?_)
  show wpAny _ _ (if (Value.ref t == Value.none) = true then _ else _) _ _ s
  rw [if_neg (show ¬ ((Value.ref t == Value.none) = true) from Bool.false_ne_true)]
  show wpAny _ _ (field (.ref it) 1 >>= _) _ _ s
  refine wpAny_bind (wpAny_field ho hd (x := .int i 0) rfl ?_)
  show wpAny _ _ (seqItems? (.ref t) >>= _) _ _ s
  refine wpAny_bind (wpAny_seqItems hol hdl ?_)
  simp only [Int.toNat_natCast, hx]
  refine wpAny_bind (wpAny_setField ho hd (by simp) (wpAny_pure ⟨x, rfl, wpAny_pure (hQ _ ?_ (Heap.SameBut.update ..))⟩))
  exact ⟨_, Heap.get?_update_self _ ho (Obj.isFreed_of_fields (Obj.data_mapFields hd _)), (Obj.cls_mapFields ..).trans hc, by
    rw [Obj.data_mapFields hd]; simp [rawInt]⟩
theorem draw_tup_end {it t : Addr} {i : Nat} {items : Array Value} {Q : Value → Shared → Prop} (hh : A.handled = none) (hit : s.heap.IsTupleIter it t i) (ht : s.heap.IsTuple t items) (hx : items[i]? = none)
    (hE : ∀ h' e, Heap.ExtBut it s.heap h' → (∃ o, h'.get? e = some o ∧ o.cls = .type "StopIteration") → E (.ref e) { s with heap := h' }) : wpAny (model prog w) A (Builtin.SmallTypes.nextOf (.ref it)) Q E s := by
  refine bC fun z_ => ?_
  (obtain ⟨o, ho, hc, hd⟩ := id hit) <;> refine z_ ?_ <;> clear z_
  refine bC fun z_ => ?_
  (obtain ⟨ol, hol, _, nl, hdl⟩ := ht) <;> refine z_ ?_ <;> clear z_
  unfold Builtin.SmallTypes.nextOf
  refine wpAny_bind (wpAny_callSpecial?_slot (name := Str.ofString "__next__") hit.typeIs PySem.F.slot_tuple_iterator_next
    (wpAny_call_entry PySem.F.slot_tuple_iterator_next hit.typeIs PySem.F.entry_tuple_iterator_next ?_ (PySem.F.args_tuple_iterator_next_1 _)))
  show wpAny _ _ (field (.ref it) 0 >>= _) _ _ s
  refine wpAny_bind (wpAny_field ho hd (x := .ref t) rfl ?_)
  show wpAny _ _ (if (Value.ref t == Value.none) = true then _ else _) _ _ s
  rw [if_neg (show ¬ ((Value.ref t == Value.none) = true) from Bool.false_ne_true)]
  show wpAny _ _ (field (.ref it) 1 >>= _) _ _ s
  refine wpAny_bind (wpAny_field ho hd (x := .int i 0) rfl ?_)
  show wpAny _ _ (seqItems? (.ref t) >>= _) _ _ s
  refine wpAny_bind (wpAny_seqItems hol hdl ?_)
  simp only [Int.toNat_natCast, hx]
  refine wpAny_bind (wpAny_rule (wpAny_bind (wpAny_setField ho hd (by simp) ?_)))
  show wpAny _ _ (newExc (.type "StopIteration") [] >>= _) _ _ _
  refine wpAny_bind ?_
  simp only [newExc, newTuple]
  refine wpAny_bind (wpAny_newObj_type ?_ (by size_fits))
  refine wpAny_bind (m := firstArgMember _ _) (wpAny_of_eq (a := Value.none) (by first | rfl | (simp only [firstArgMember]; rfl)) ?_)
  refine wpAny_newObj_type ?_ (by size_fits)
  simp only [raiseNew]
  refine wpAny_bind (wpAny_handled ?_)
  first | rw [show A.in1.handled = none from hh] | rw [hh]
  refine wpAny_bind (wpAny_pure (wpAny_throw ?_))
  exact hE _ _ (((Heap.SameBut.update ..).extBut.push _).push _) ⟨_, Heap.get?_push_size _ rfl, rfl⟩
theorem tz_next {z TI TO i1 i2 l1 l2 : Addr} {k : Nat} {xs ys : Array Value} {x y a b : Value} {Q : Option Value → Shared → Prop} (D : ZipApart z TI TO i1 i2 l1 l2)
    (hz : IsZip s.heap z TI TO .none) (hTI : IsPair s.heap TI (.ref i1) (.ref i2)) (hTO : IsPair s.heap TO a b)
    (h1 : s.heap.IsTupleIter i1 l1 k) (h2 : s.heap.IsTupleIter i2 l2 k) (hl1 : s.heap.IsTuple l1 xs) (hl2 : s.heap.IsTuple l2 ys) (hx : xs[k]? = some x) (hy : ys[k]? = some y)
    (hQ : ∀ h', IsZip h' z TI TO (rawInt s.heap.objs.size) → IsPair h' TO x y → h'.IsTupleIter i1 l1 (k + 1) → h'.IsTupleIter i2 l2 (k + 1) → IsPair h' s.heap.objs.size x y →
      (∀ c o, c ≠ z → c ≠ TO → c ≠ i1 → c ≠ i2 → s.heap.get? c = some o → h'.get? c = some o) → Q (some (.ref s.heap.objs.size)) { s with heap := h' }) :
    wpAny (model prog w) A (pyNext (.ref z)) Q E s := by
  have hT : s.TypeIs (.ref z) "zip" := ⟨_, hz, rfl⟩
  unfold pyNext
  refine wpAny_bind (wpAny_attempt (wpAny_callSpecial?_slot (name := Str.ofString "__next__") hT PySem.F.slot_zip_next
    (wpAny_call_entry PySem.F.slot_zip_next hT PySem.F.entry_zip_next ?_ (PySem.F.args_zip_next_1 _))))
  show wpAny _ _ (field (.ref z) 2 >>= _) _ _ _
  refine wpAny_bind (wpAny_field hz rfl (x := .bool false) rfl ?_)
  show wpAny _ _ (field (.ref z) 3 >>= _) _ _ _
  refine wpAny_bind (wpAny_field hz rfl (x := .ref TI) rfl ?_)
  refine wpAny_bind (wpAny_seqItems hTI rfl ?_)
  show wpAny _ _ (Builtin.SmallTypes.ownedTupleIsFree (.ref z) >>= _) _ _ _
  refine wpAny_bind ?_
  unfold Builtin.SmallTypes.ownedTupleIsFree
  refine wpAny_bind (wpAny_field hz rfl (x := .none) rfl (wpAny_pure ?_))
  simp only [if_true]
  refine wpAny_bind (wpAny_rule ?_)
  refine wpAny_bind (wpAny_field hz rfl (x := .ref TO) rfl ?_)
  refine wpAny_bind (wpAny_setField_rec hz (by simp) fun h₁ hz₁ hs₁ => ?_)
  replace hz₁ : IsZip h₁ z TI TO .ellipsis := hz₁
  refine wpAny_bind ?_
  simp only [List.zipIdx_cons, List.zipIdx_nil, List.forIn_cons, List.forIn_nil]
  refine wpAny_bind (wpAny_bind (wpAny_onRaise ?_))
  show wpAny _ _ (Builtin.SmallTypes.nextOf (.ref i1) >>= _) _ _ _
  have t1 : h₁.IsTupleIter i1 l1 k := h1.at fun o e => hs₁.extBut _ _ D.i1z e
  have u1 : h₁.IsTuple l1 xs := hl1.at fun o e => hs₁.extBut _ _ D.l1z e
  refine wpAny_bind (draw_tup t1 u1 hx fun h₂ h1₂ hs₂ => wpAny_pure ?_)
  have hTO₂ : IsPair h₂ TO a b := hs₂.extBut _ _ D.TOi1 (hs₁.extBut _ _ D.TOz hTO)
  refine wpAny_bind (wpAny_seqItems hTO₂ rfl ?_)
  refine wpAny_bind (wpAny_updateSeq_pair hTO₂ fun h₃ hTO₃ hs₃ => ?_)
  replace hTO₃ : IsPair h₃ TO x b := hTO₃
  refine wpAny_bind (wpAny_letGo (wpAny_pure ?_))
  refine wpAny_bind (wpAny_bind (wpAny_onRaise ?_))
  show wpAny _ _ (Builtin.SmallTypes.nextOf (.ref i2) >>= _) _ _ _
  have t2 : h₃.IsTupleIter i2 l2 k := h2.at fun o e => hs₃.extBut _ _ D.TOi2.symm (hs₂.extBut _ _ D.i12.symm (hs₁.extBut _ _ D.i2z e))
  have u2 : h₃.IsTuple l2 ys := hl2.at fun o e => hs₃.extBut _ _ D.l2TO (hs₂.extBut _ _ D.l2i1 (hs₁.extBut _ _ D.l2z e))
  refine wpAny_bind (draw_tup t2 u2 hy fun h₄ h2₄ hs₄ => wpAny_pure ?_)
  have hTO₄ : IsPair h₄ TO x b := hs₄.extBut _ _ D.TOi2 hTO₃
  refine wpAny_bind (wpAny_seqItems hTO₄ rfl ?_)
  refine wpAny_bind (wpAny_updateSeq_pair hTO₄ fun h₅ hTO₅ hs₅ => ?_)
  replace hTO₅ : IsPair h₅ TO x y := hTO₅
  refine wpAny_bind (wpAny_letGo (wpAny_pure (wpAny_pure ?_)))
  refine wpAny_bind (wpAny_seqItems hTO₅ rfl ?_)
  refine wpAny_bind (wpAny_newTuple ?_)
  have hsz : h₅.objs.size = s.heap.objs.size := by rw [hs₅.1, hs₄.1, hs₃.1, hs₂.1, hs₁.1]
  have hz₅ : IsZip h₅ z TI TO .ellipsis := hs₅.extBut _ _ D.TOz.symm (hs₄.extBut _ _ D.i2z.symm (hs₃.extBut _ _ D.TOz.symm (hs₂.extBut _ _ D.i1z.symm hz₁)))
  have hk₅ : ∀ c o, c ≠ z → c ≠ TO → c ≠ i1 → c ≠ i2 → s.heap.get? c = some o → h₅.get? c = some o := fun c o c1 c2 c3 c4 e =>
    hs₅.extBut _ _ c2 (hs₄.extBut _ _ c4 (hs₃.extBut _ _ c2 (hs₂.extBut _ _ c3 (hs₁.extBut _ _ c1 e))))
  have h1₅ : h₅.IsTupleIter i1 l1 (k + 1) := h1₂.at fun o e => hs₅.extBut _ _ D.TOi1.symm (hs₄.extBut _ _ D.i12 (hs₃.extBut _ _ D.TOi1.symm e))
  have h2₅ : h₅.IsTupleIter i2 l2 (k + 1) := h2₄.at fun o e => hs₅.extBut _ _ D.TOi2.symm e
  have hzlt : z < h₅.objs.size := Heap.lt_size hz₅
  show wpAny _ _ (Builtin.SmallTypes.ownedTupleHandOut (.ref z) (.ref h₅.objs.size) >>= _) _ _ _
  refine wpAny_bind ?_
  unfold Builtin.SmallTypes.ownedTupleHandOut
  have hz₆ : IsZip (h₅.push { cls := .type "tuple", data := .seq #[x, y] }) z TI TO .ellipsis := Heap.get?_push_of_some _ hz₅
  refine wpAny_bind (wpAny_setField_rec hz₆ (by simp) fun h₇ hz₇ hs₇ => ?_)
  replace hz₇ : IsZip h₇ z TI TO (rawInt h₅.objs.size) := hz₇
  refine wpAny_setField_rec hz₇ (by simp) fun h₈ hz₈ hs₈ => ?_
  replace hz₈ : IsZip h₈ z TI TO (rawInt h₅.objs.size) := hz₈
  have up : ∀ c o, c ≠ z → h₅.get? c = some o → h₈.get? c = some o := fun c o c1 e => hs₈.extBut _ _ c1 (hs₇.extBut _ _ c1 (Heap.get?_push_of_some _ e))
  have hT₈ : IsPair h₈ h₅.objs.size x y := hs₈.extBut _ _ (Nat.ne_of_gt hzlt) (hs₇.extBut _ _ (Nat.ne_of_gt hzlt) (Heap.get?_push_size _ rfl))
  rw [hsz] at hz₈ hT₈
  refine wpAny_pure ⟨_, rfl, ?_⟩
  refine wpAny_pure ?_
  show Q (some (.ref h₅.objs.size)) _
  rw [hsz]
  exact hQ h₈ hz₈ (up _ _ D.TOz hTO₅) (h1₅.at fun o e => up _ o D.i1z e) (h2₅.at fun o e => up _ o D.i2z e) hT₈ fun c o c1 c2 c3 c4 e => up c o c1 (hk₅ c o c1 c2 c3 c4 e)
theorem tz_end {z TI TO i1 i2 l1 l2 : Addr} {k : Nat} {xs : Array Value} {a b : Value} {Q : Option Value → Shared → Prop} (hh : A.handled = none) (D : ZipApart z TI TO i1 i2 l1 l2)
    (hz : IsZip s.heap z TI TO .none) (hTI : IsPair s.heap TI (.ref i1) (.ref i2)) (hTO : IsPair s.heap TO a b) (h1 : s.heap.IsTupleIter i1 l1 k) (hl1 : s.heap.IsTuple l1 xs) (hx : xs[k]? = none)
    (hQ : ∀ h', (∀ c o, c ≠ z → c ≠ TO → c ≠ i1 → c ≠ i2 → s.heap.get? c = some o → h'.get? c = some o) → Q none { s with heap := h' }) : wpAny (model prog w) A (pyNext (.ref z)) Q E s := by
  have hT : s.TypeIs (.ref z) "zip" := ⟨_, hz, rfl⟩
  unfold pyNext
  refine wpAny_bind (wpAny_attempt (wpAny_callSpecial?_slot (name := Str.ofString "__next__") hT PySem.F.slot_zip_next
    (wpAny_call_entry PySem.F.slot_zip_next hT PySem.F.entry_zip_next ?_ (PySem.F.args_zip_next_1 _))))
  show wpAny _ _ (field (.ref z) 2 >>= _) _ _ _
  refine wpAny_bind (wpAny_field hz rfl (x := .bool false) rfl ?_)
  show wpAny _ _ (field (.ref z) 3 >>= _) _ _ _
  refine wpAny_bind (wpAny_field hz rfl (x := .ref TI) rfl ?_)
  refine wpAny_bind (wpAny_seqItems hTI rfl ?_)
  show wpAny _ _ (Builtin.SmallTypes.ownedTupleIsFree (.ref z) >>= _) _ _ _
  refine wpAny_bind ?_
  unfold Builtin.SmallTypes.ownedTupleIsFree
  refine wpAny_bind (wpAny_field hz rfl (x := .none) rfl (wpAny_pure ?_))
  simp only [if_true]
  refine wpAny_bind (wpAny_rule ?_)
  refine wpAny_bind (wpAny_field hz rfl (x := .ref TO) rfl ?_)
  refine wpAny_bind (wpAny_setField_rec hz (by simp) fun h₁ hz₁ hs₁ => ?_)
  replace hz₁ : IsZip h₁ z TI TO .ellipsis := hz₁
  refine wpAny_bind ?_
  simp only [List.zipIdx_cons, List.zipIdx_nil, List.forIn_cons, List.forIn_nil]
  refine wpAny_bind (wpAny_bind (wpAny_onRaise ?_))
  show wpAny _ _ (Builtin.SmallTypes.nextOf (.ref i1) >>= _) _ _ _
  have t1 : h₁.IsTupleIter i1 l1 k := h1.at fun o e => hs₁.extBut _ _ D.i1z e
  have u1 : h₁.IsTuple l1 xs := hl1.at fun o e => hs₁.extBut _ _ D.l1z e
  refine wpAny_bind (draw_tup_end hh t1 u1 hx fun h₂ e hs₂ he => ?_)
  refine bC fun z_ => ?_
  (obtain ⟨oe, hoe, hce⟩ := he) <;> refine z_ ?_ <;> clear z_
  have hz₂ : IsZip h₂ z TI TO .ellipsis := hs₂ _ _ D.i1z.symm hz₁
  have hez : e ≠ z := fun x => by subst x; rw [hz₂] at hoe; cases hoe; simp at hce
  refine wpAny_setField_rec hz₂ (by simp) fun h₃ _ hs₃ => ?_
  refine wpAny_bind (wpAny_isInstance (T := "StopIteration") (b := true) ⟨oe, hs₃.extBut _ _ hez hoe, hce⟩ isSubtype_stop ?_)
  exact wpAny_pure (hQ _ fun c o c1 _ c3 _ x => hs₃.extBut _ _ c1 (hs₂ _ _ c3 (hs₁.extBut _ _ c1 x)))
theorem TwoTup.walks (hh : A.handled = none) (z TI TO i1 i2 l1 l2 : Addr) (D : ZipApart z TI TO i1 i2 l1 l2) (xs ys : Array Value) (hn : xs.size = ys.size) :
    WalksU prog w A z [z, TI, TO, i1, i2, l1, l2] [z, TO, i1, i2] xs.size
      (fun i vals => ∃ x y, xs[i]? = some x ∧ ys[i]? = some y ∧ vals = #[x, y])
      (fun i h => IsZip h z TI TO .none ∧ IsPair h TI (.ref i1) (.ref i2) ∧ (∃ a b, IsPair h TO a b) ∧ h.IsTupleIter i1 l1 i ∧ h.IsTupleIter i2 l2 i ∧ h.IsTuple l1 xs ∧ h.IsTuple l2 ys)
      (fun i T h => IsZip h z TI TO (rawInt T) ∧ IsPair h TI (.ref i1) (.ref i2) ∧ (∃ a b, IsPair h TO a b) ∧ h.IsTupleIter i1 l1 (i + 1) ∧ h.IsTupleIter i2 l2 (i + 1) ∧ h.IsTuple l1 xs ∧ h.IsTuple l2 ys ∧
        T ≠ z ∧ T ≠ TO ∧ T ≠ i1 ∧ T ≠ i2) where
  sub := fun c hc => by simp at hc ⊢; rcases hc with rfl | rfl | rfl | rfl <;> simp
  frame := fun i h h' hst hk => by
    refine bC fun z_ => ?_
    (obtain ⟨hz, hTI, ⟨a, b, hTO⟩, h1, h2, hl1, hl2⟩ := hst) <;> refine z_ ?_ <;> clear z_
    exact ⟨hk z (by simp) _ hz, hk TI (by simp) _ hTI, ⟨a, b, hk TO (by simp) _ hTO⟩, h1.at fun o e => hk i1 (by simp) o e, h2.at fun o e => hk i2 (by simp) o e,
      hl1.at fun o e => hk l1 (by simp) o e, hl2.at fun o e => hk l2 (by simp) o e⟩
  item := fun i s Q E hi hst hQ => by
    refine bC fun z_ => ?_
    (obtain ⟨hz, hTI, ⟨a, b, hTO⟩, h1, h2, hl1, hl2⟩ := hst) <;> refine z_ ?_ <;> clear z_
    have hiy : i < ys.size := hn ▸ hi
    refine tz_next D hz hTI hTO h1 h2 hl1 hl2 (Array.getElem?_eq_getElem hi) (Array.getElem?_eq_getElem hiy) fun h' a1 a2 a3 a4 a5 hk => ?_
    have lt : ∀ {c o}, s.heap.get? c = some o → s.heap.objs.size ≠ c := fun e => Nat.ne_of_gt (Heap.lt_size e)
    exact hQ s.heap.objs.size #[xs[i], ys[i]] h' s.toks ⟨_, _, Array.getElem?_eq_getElem hi, Array.getElem?_eq_getElem hiy, rfl⟩ ⟨_, a5, rfl, _, rfl⟩
      ⟨a1, hk _ _ D.TIz D.TITO D.TIi1 D.TIi2 hTI, ⟨_, _, a2⟩, a3, a4, hl1.at fun o e => hk _ o D.l1z D.l1TO D.l1i1 D.l1i2 e, hl2.at fun o e => hk _ o D.l2z D.l2TO D.l2i1 D.l2i2 e,
        lt hz, lt hTO, (by obtain ⟨_, e, _⟩ := h1; exact lt e), (by obtain ⟨_, e, _⟩ := h2; exact lt e)⟩
      fun c o hc e => hk c o (fun x => hc (by simp [x])) (fun x => hc (by simp [x])) (fun x => hc (by simp [x])) (fun x => hc (by simp [x])) e
  go := fun elts k pos i T s Q E hm hQ => by
    refine bC fun z_ => ?_
    (obtain ⟨hz, hTI, ⟨a, b, hTO⟩, h1, h2, hl1, hl2, _⟩ := hm) <;> refine z_ ?_ <;> clear z_
    refine wpAny_letOwnedTupleGo_zip hz fun h' hz' hs' => hQ h' ⟨hz', hs'.extBut _ _ D.TIz hTI, ⟨a, b, hs'.extBut _ _ D.TOz hTO⟩, h1.at fun o e => hs'.extBut _ _ D.i1z e, h2.at fun o e => hs'.extBut _ _ D.i2z e,
      hl1.at fun o e => hs'.extBut _ _ D.l1z e, hl2.at fun o e => hs'.extBut _ _ D.l2z e⟩ fun c o hc e => hs'.extBut _ _ (fun x => hc (by simp [x])) e
  apart := fun i T h hm hT => by
    refine bC fun z_ => ?_
    (obtain ⟨_, _, _, _, _, _, _, t1, t2, t3, t4⟩ := hm) <;> refine z_ ?_ <;> clear z_
    simp at hT
    rcases hT with rfl | rfl | rfl | rfl
    · exact t1 rfl
    · exact t2 rfl
    · exact t3 rfl
    · exact t4 rfl
  done := fun s Q E hst hQ => by
    refine bC fun z_ => ?_
    (obtain ⟨hz, hTI, ⟨a, b, hTO⟩, h1, h2, hl1, hl2⟩ := hst) <;> refine z_ ?_ <;> clear z_
    exact tz_end hh D hz hTI hTO h1 hl1 (Array.getElem?_eq_none (Nat.le_refl _)) fun h' hk => hQ h' s.toks fun c o hc e =>
      hk c o (fun x => hc (by simp [x])) (fun x => hc (by simp [x])) (fun x => hc (by simp [x])) (fun x => hc (by simp [x])) e
  self := fun i s Q E hst hQ => wpAny_pyIter_zip hst.1 hQ
end
/- zip of two tuples -/
theorem zip_tuples {prog : Program} {w : World} {A : Around} {E : Value → Shared → Prop} {s : Shared} {l1 l2 : Addr} {xs ys : Array Value} {Q : Value → Shared → Prop} (hl1 : s.heap.IsTuple l1 xs) (hl2 : s.heap.IsTuple l2 ys)
    (h : ∀ h', IsZip h' (s.heap.objs.size + 4) (s.heap.objs.size + 2) (s.heap.objs.size + 3) .none → IsPair h' (s.heap.objs.size + 2) (.ref s.heap.objs.size) (.ref (s.heap.objs.size + 1)) →
      IsPair h' (s.heap.objs.size + 3) .none .none → h'.IsTupleIter s.heap.objs.size l1 0 → h'.IsTupleIter (s.heap.objs.size + 1) l2 0 → h'.objs.size = s.heap.objs.size + 5 →
      (∀ c o, s.heap.get? c = some o → h'.get? c = some o) → Q (.ref (s.heap.objs.size + 4)) { s with heap := h' }) :
    wpAny (model prog w) A (call (.type "zip") [.ref l1, .ref l2]) Q E s := by
  refine callType_new (S := fun _ R s => s.heap.IsTuple l1 xs ∧ s.heap.IsTuple l2 ys ∧ ∀ h1 h2 h3 h4 h5 : Heap, h1 = s.heap.push { cls := .type "tuple_iterator", data := .fields #[.ref l1, .int 0 0] } → h2 = h1.push { cls := .type "tuple_iterator", data := .fields #[.ref l2, .int 0 0] } →
      h3 = h2.push { cls := .type "tuple", data := .seq #[.ref s.heap.objs.size, .ref h1.objs.size] } → h4 = h3.push { cls := .type "tuple", data := .seq #[.none, .none] } →
      h5 = h4.push { cls := .type "zip", data := .fields #[.none, .bool false, .bool false, .ref h2.objs.size, .ref h3.objs.size] } → R (.ok (.ret (.ref h4.objs.size))) { s with heap := h5 })
    PySem.F.called_zip (by decide) (PySem.F.typeCall_zip_2 _ _) (PySem.F.newCall_zip_2 _ _) (fun obj => PySem.F.args_object_init_3 obj _ _) PySem.F.entry_zip_new
    (.of_wp fun prog w A R s hh => ?_) ⟨hl1, hl2, ?_⟩
  · obtain ⟨hp, g, d, tk, os⟩ := s; obtain ⟨hl1, hl2, hh⟩ := hh
    have hsub := sub_zip
    have hL1 : Heap.IsTuple (Shared.heap ⟨hp, g, d, tk, os⟩) l1 xs := hl1
    have hL2 : Heap.IsTuple (Shared.heap ⟨hp.push { cls := .type "tuple_iterator", data := .fields #[.ref l1, .int 0 0] }, g, d, tk, os⟩) l2 ys := hl2.at fun o e => Heap.get?_push_of_some _ e
    wp_walk using wpAny_pyIter_tuple hL1, wpAny_pyIter_tuple hL2
    exact ⟨_, rfl, hh _ _ _ _ _ rfl rfl rfl rfl rfl⟩
  · intro h1 h2 h3 h4 h5 e1 e2 e3 e4 e5
    have z1 : h1.objs.size = s.heap.objs.size + 1 := by rw [e1, Heap.size_push]
    have z2 : h2.objs.size = s.heap.objs.size + 2 := by rw [e2, Heap.size_push, z1]
    have z3 : h3.objs.size = s.heap.objs.size + 3 := by rw [e3, Heap.size_push, z2]
    have z4 : h4.objs.size = s.heap.objs.size + 4 := by rw [e4, Heap.size_push, z3]
    have z5 : h5.objs.size = s.heap.objs.size + 5 := by rw [e5, Heap.size_push, z4]
    have up1 : ∀ c o, s.heap.get? c = some o → h1.get? c = some o := fun c o e => by rw [e1]; exact Heap.get?_push_of_some _ e
    have up2 : ∀ c o, h1.get? c = some o → h2.get? c = some o := fun c o e => by rw [e2]; exact Heap.get?_push_of_some _ e
    have up3 : ∀ c o, h2.get? c = some o → h3.get? c = some o := fun c o e => by rw [e3]; exact Heap.get?_push_of_some _ e
    have up4 : ∀ c o, h3.get? c = some o → h4.get? c = some o := fun c o e => by rw [e4]; exact Heap.get?_push_of_some _ e
    have up5 : ∀ c o, h4.get? c = some o → h5.get? c = some o := fun c o e => by rw [e5]; exact Heap.get?_push_of_some _ e
    have g5 : h5.get? (s.heap.objs.size + 4) = some { cls := .type "zip", data := .fields #[.none, .bool false, .bool false, .ref (s.heap.objs.size + 2), .ref (s.heap.objs.size + 3)] } := by
      rw [← z4, ← z2, ← z3, e5]; exact Heap.get?_push_size _ rfl
    have g4 : h5.get? (s.heap.objs.size + 3) = some { cls := .type "tuple", data := .seq #[.none, .none] } := up5 _ _ (by rw [← z3, e4]; exact Heap.get?_push_size _ rfl)
    have g3 : h5.get? (s.heap.objs.size + 2) = some { cls := .type "tuple", data := .seq #[.ref s.heap.objs.size, .ref (s.heap.objs.size + 1)] } := up5 _ _ (up4 _ _ (by rw [← z2, ← z1, e3]; exact Heap.get?_push_size _ rfl))
    have g2 : h5.get? (s.heap.objs.size + 1) = some { cls := .type "tuple_iterator", data := .fields #[.ref l2, .int 0 0] } := up5 _ _ (up4 _ _ (up3 _ _ (by rw [← z1, e2]; exact Heap.get?_push_size _ rfl)))
    have g1 : h5.get? s.heap.objs.size = some { cls := .type "tuple_iterator", data := .fields #[.ref l1, .int 0 0] } := up5 _ _ (up4 _ _ (up3 _ _ (up2 _ _ (by rw [e1]; exact Heap.get?_push_size _ rfl))))
    show _ ∧ _
    rw [z4]
    exact ⟨⟨_, g5, rfl⟩, h _ g5 g3 g4 ⟨_, g1, rfl, rfl⟩ ⟨_, g2, rfl, rfl⟩ z5 fun c o x => up5 _ _ (up4 _ _ (up3 _ _ (up2 _ _ (up1 _ _ x))))⟩
end Mine
end

/- part EW -/
section
open PySem PySem.W PyProof.Rows PySem.Calls PySem.Spec PyProof.V PySem.Builtin PySem.Builtin.Str
set_option maxRecDepth 100000
namespace Mine
theorem headI_inv {y : List D} {p : Int × List D} (h : headI y = some p) : y = .int p.1 :: p.2 := by
  cases y with
  | nil => exact nope h
  | cons d r =>
    obtain ⟨b, e, k⟩ := Option.map_eq_some_iff.mp h
    rw [asI_inv e, ← k]
theorem zipAddD_get : ∀ {x y l : List D}, zipAddD x y = some l → x.length = l.length ∧ y.length = l.length ∧ ∀ i, i < l.length → ∃ a b, x[i]? = some (.int a) ∧ y[i]? = some (.int b) ∧ l[i]? = some (.int (a + b))
  | [], y, l, h => by
    obtain ⟨e1, e2⟩ := nilD_inv h
    rw [e1, e2]
    exact ⟨rfl, rfl, fun i hi => (Nat.not_lt_zero i hi).elim⟩
  | d :: x, y, l, h => by
    refine bC fun z => ?_
    obtain ⟨a, ea, h⟩ := bsome h
    obtain ⟨p, ep, h⟩ := bsome h
    obtain ⟨l', h1, e⟩ := Option.map_eq_some_iff.mp h
    obtain ⟨g1, g2, g3⟩ := zipAddD_get h1
    rw [asI_inv ea, headI_inv ep, ← e] at z
    refine z ⟨congrArg (· + 1) g1, congrArg (· + 1) g2, fun i hi => ?_⟩
    cases i with
    | zero => exact ⟨a, p.1, rfl, rfl, rfl⟩
    | succ i => exact g3 i (Nat.lt_of_succ_lt_succ hi)
section
variable {U : U0} {l : Nat} {C : Cx} {Z : Zz}
theorem code_any {A : Around} {E : Value → Shared → Prop} {env : Env} {s : Shared} {q : Str} {scope : Scope} {Q : Value → Shared → Prop} (hc : env.code = .ref cdP) (t : TabOk s.heap)
    (k : ∀ c' h' tk, Kp s.heap h' → Q c' { s with heap := h', toks := tk }) : wpAny (model U.prog U.w) A (genexprCode env gePos q scope) Q E s := by
  refine bC fun z_ => ?_
  (obtain ⟨ps, hI, hT, hps⟩ := t) <;> refine z_ ?_ <;> clear z_
  rcases hps with rfl | ⟨c', hc'⟩
  · refine wpAny_genexprCodeX hc hI hT rfl fun c' h' tk hEB _ _ hIC _ hTA _ => k _ h' tk ⟨fun b o n e => hEB b o n e, fun _ => ?_, fun _ => ⟨_, hIC, hTA, .inr ⟨_, codeAmong_snoc [] trivial rfl⟩⟩⟩
    rw [hTA.2]; rfl
  · exact wpAny_genexprCode_hit hc hI hc' (k _ s.heap s.toks (.refl _))
theorem passing_all (n : Nat) : passing (fun _ => true) n 0 = List.range n := by
  unfold passing; rw [List.drop_zero, List.filter_eq_self.mpr (fun _ _ => rfl)]
set_option maxHeartbeats 8000000 in
theorem Snd.zipAdd {nmT nmZ xa xb : Str} {e1 e2 : Expr} {y1 : X} {y2 : O} {pT pZ pa pb pa' pb' pt pp pb0 pos : Pos} {kt : Nat} {scope : Scope} (bT : BltIn U Z nmT (.type "tuple")) (bZ : BltIn U Z nmZ (.type "zip")) (h1 : Snd U l C Z e1 y1) (h2 : SndO U l C Z e2 y2)
    (hp1 : notStar e1 = true) (hp2 : notStar e2 = true) (hc : Z.code = .ref cdP) (hco : scope.isCoroutine = false) (hkind : scope.kind = .function) (hnm : ∀ y ∈ scope.names, y.2 = .local) (h0 : scope.names.lookup (".0" : Str) = some NameKind.local) (hxa : scope.names.lookup xa = some .local) (hxb : scope.names.lookup xb = some .local) (hab : xa ≠ xb)
    (hna : (xa == ("__debug__" : Str)) = false) (hnb : (xb == ("__debug__" : Str)) = false) :
    Snd U l C Z (.Call (.Name nmT pT) [.GeneratorExp (.BinOp (.Name xa pa') .Add (.Name xb pb') pb0) [⟨.Tuple [.Name xa pa, .Name xb pb] kt pt, .Call (.Name nmZ pZ) [e1, e2] [] pp, [], 0⟩] scope gePos] [] pos) (.zipAdd y1 y2) := by
  intro A env s G r d hE hR hB R q
  obtain ⟨d1, q1, k_⟩ := bsome q
  obtain ⟨d2, q2, q⟩ := bsome k_
  refine bC fun z_ => ?_
  (obtain ⟨lx, k1_, q3⟩ := bsome q; obtain ⟨ly, k2_, q4⟩ := bsome q3; obtain ⟨ll, hz, q5⟩ := bsome q4; obtain ⟨hl, rfl⟩ := lenOk_some q5; have k1_ := asT_inv k1_; have k2_ := asT_inv k2_; subst k1_ k2_; obtain ⟨z1, z2, z3⟩ := zipAddD_get hz; clear q q3 q4 q5) <;> refine z_ ?_ <;> clear z_
  · skip
    have hbig : big = 1000000 := rfl
    have hsl := sizeLine_eq
    refine typ_call bT hE hB (one_plain rfl) (by simp) (wpAny_items_cons ?_ (starEach_plain rfl))
    refine wpAny_GeneratorExp_walksQT (cl := []) hR.hand hco ?_ (fun y hy q => by rw [hnm y hy] at q; cases q) h0 hxa hxb hab hkind (by have := hR.depth; omega) ?_ (fun _ => rfl)
    · rw [closureFor_eq fun x hx hk => by rw [hnm x hx] at hk; cases hk]
      congr 1
      have : ∀ (names : List (Str × NameKind)) acc, (∀ y ∈ names, y.2 = .local) → clOf env.cells names acc = acc := by
        intro names
        induction names with
        | nil => intro acc _; rfl
        | cons p r ih =>
          obtain ⟨n, k⟩ := p
          intro acc hh
          have hk : k = .local := hh (n, k) (.head _)
          subst hk
          unfold clOf
          exact ih _ fun y hy => hh y (.tail _ hy)
      exact this _ _ hnm
    refine typ_call bZ hE hB (by unfold allPlain allPlain allPlain; rw [hp1, hp2]; rfl) (by simp) (wpAny_items_cons ((h1 A env s G r _ hE hR hB R q1).use fun v1 s1 G1 x1 r1 => wpAny_items_cons (wpAny_mono (h2 A env s1 G1 r _ hE hR (hB.keeps x1.keep) (R.ext x1) q2) (fun v2 s2 ⟨G2, x2, r2⟩ => wpAny_items_nil ?_) fun _ _ f => f.elim) (starEach_plain hp2)) (starEach_plain hp1))
    have r1' := r1.mono x2.le
    simp only [Rep] at r1'
    replace r2 : Rep G2 (.tup ly) v2 := r2
    simp only [Rep] at r2
    refine bC fun z_ => ?_
    (obtain ⟨a1, vs1, n1, rfl, g1, rl1⟩ := r1') <;> refine z_ ?_ <;> clear z_
    refine bC fun z_ => ?_
    (obtain ⟨a2, vs2, n2, rfl, g2, rl2⟩ := r2) <;> refine z_ ?_ <;> clear z_
    have x12 := x1.trans x2
    have hl1 := rl1.length; rw [Array.length_toList] at hl1
    have hl2 := rl2.length; rw [Array.length_toList] at hl2
    have ho1 := x2.sub _ _ g1
    have ho2 := x2.sub _ _ g2
    refine zip_tuples (xs := vs1) (ys := vs2) ⟨_, ho1, rfl, n1, rfl⟩ ⟨_, ho2, rfl, n2, rfl⟩ fun h' hz' hTI hTO hi1 hi2 hsz hk => wpAny_pyIter_zip hz' ?_
    have x3 := x12.trans (ExtE.grow (tk := s2.toks) x2.sub hk)
    have B3 := hB.keeps x3.keep
    refine ⟨B3.lim, code_any (s := { s2 with heap := h' }) (hE.code.trans hc) B3.tab fun c' h4 tk4 k4 => ?_⟩
    have B4 := B3.keeps k4
    refine bC fun z_ => ?_
    (obtain ⟨bm, ob, b1, b2, b3, b4, b5, b6⟩ := B4.bm) <;> refine z_ ?_ <;> clear z_
    refine wpAny_builtinsFor (by rw [hE.glob]; exact B4.top.g) b1 b2 b3 b4 b5 b6 ?_
    have nn : ∀ j, s2.heap.get? (s2.heap.objs.size + j) = Option.none := fun j => fresh_none (Nat.le_add_right _ _)
    have np : ∀ j, s2.heap.objs.size + j ≠ tabP := fun j => (hB.keeps x12.keep).np (nn j)
    have na : ∀ j, a1 ≠ s2.heap.objs.size + j := fun j => Nat.ne_of_lt (Nat.lt_of_lt_of_le (Heap.lt_size ho1) (Nat.le_add_right _ _))
    have na' : ∀ j, a2 ≠ s2.heap.objs.size + j := fun j => Nat.ne_of_lt (Nat.lt_of_lt_of_le (Heap.lt_size ho2) (Nat.le_add_right _ _))
    have D : ZipApart (s2.heap.objs.size + 4) (s2.heap.objs.size + 2) (s2.heap.objs.size + 3) s2.heap.objs.size (s2.heap.objs.size + 1) a1 a2 := by
      constructor <;> first | exact Nat.ne_of_lt (by omega) | exact Nat.ne_of_gt (by omega) | exact na 0 | exact na 1 | exact na 2 | exact na 3 | exact na 4 | exact na' 0 | exact na' 1 | exact na' 2 | exact na' 3 | exact na' 4
    have gt2 : G2 tabP = Option.none := (R.ext x12).gt
    have ga1 : a1 ≠ tabP := fun q => by rw [q, gt2] at g1; cases g1
    have ga2 : a2 ≠ tabP := fun q => by rw [q, gt2] at g2; cases g2
    have st4 : IsZip h4 (s2.heap.objs.size + 4) (s2.heap.objs.size + 2) (s2.heap.objs.size + 3) .none ∧ IsPair h4 (s2.heap.objs.size + 2) (.ref s2.heap.objs.size) (.ref (s2.heap.objs.size + 1)) ∧ (∃ a b, IsPair h4 (s2.heap.objs.size + 3) a b) ∧
        h4.IsTupleIter s2.heap.objs.size a1 0 ∧ h4.IsTupleIter (s2.heap.objs.size + 1) a2 0 ∧ h4.IsTuple a1 vs1 ∧ h4.IsTuple a2 vs2 :=
      ⟨k4.kp _ _ (np 4) hz', k4.kp _ _ (np 2) hTI, ⟨_, _, k4.kp _ _ (np 3) hTO⟩, hi1.at fun o e => k4.kp _ o (np 0) e, hi2.at fun o e => k4.kp _ o (np 1) e, ⟨_, k4.kp _ _ ga1 (hk _ _ ho1), rfl, n1, rfl⟩, ⟨_, k4.kp _ _ ga2 (hk _ _ ho2), rfl, n2, rfl⟩⟩
    have tabLt : tabP < s2.heap.objs.size := by
      obtain ⟨o, ho⟩ := Option.isSome_iff_exists.mp (hB.keeps x12.keep).tab.alive
      exact Heap.lt_size ho
    have wrGe : ∀ b ∈ [s2.heap.objs.size + 4, s2.heap.objs.size + 3, s2.heap.objs.size, s2.heap.objs.size + 1], s2.heap.objs.size ≤ b := fun b hb => by
      simp only [List.mem_cons, List.not_mem_nil, or_false] at hb
      rcases hb with rfl | rfl | rfl | rfl <;> omega
    refine ⟨_, _, _, vs1.size, _, _, _, fun _ => true, fun i y => ∃ a b t, lx[i]? = some (.int a) ∧ ly[i]? = some (.int b) ∧ y = .int (a + b) t, rfl, fun A' hA => TwoTup.walks hA _ _ _ _ _ _ _ D vs1 vs2 (by omega), fun i vals ⟨x, y, _, _, e⟩ => ⟨x, y, e⟩, st4, fun b hb => ?_, B4.lim, fun hm => ?_, fun href hhref => ⟨fun A' E' i va vb s5 m5 _ _ _ _ _ _ => wpAny_tests_nil ⟨rfl, s5.heap, s5.toks, rfl, fun _ _ e => e⟩, fun A' E' i va vb s5 m5 hA hP _ hN ha hb _ => ?_⟩, fun a h5 tk5 gs hgs hlt hsz5 hk5 W hat => ?_⟩
    · show b < h4.objs.size
      simp only [List.mem_cons, List.not_mem_nil, or_false] at hb
      rcases hb with rfl | rfl | rfl | rfl | rfl | rfl | rfl
      · exact Heap.lt_size st4.1
      · exact Heap.lt_size st4.2.1
      · exact Heap.lt_size (k4.kp _ _ (np 3) hTO)
      · obtain ⟨o, e, _⟩ := st4.2.2.2.1; exact Heap.lt_size e
      · obtain ⟨o, e, _⟩ := st4.2.2.2.2.1; exact Heap.lt_size e
      · obtain ⟨o, e, _⟩ := st4.2.2.2.2.2.1; exact Heap.lt_size e
      · obtain ⟨o, e, _⟩ := st4.2.2.2.2.2.2; exact Heap.lt_size e
    · have h1 := wrGe _ hm
      have h2 : (58 : Nat) < s2.heap.objs.size := tabLt
      have h3 : s2.heap.objs.size ≤ (2 : Nat) := h1
      omega
    · obtain ⟨x, y, hx, hy, e⟩ := hP
      obtain ⟨rfl, rfl⟩ : va = x ∧ vb = y := by simpa using congrArg Array.toList e
      have hi : i < ll.length := by
        have := (Array.getElem?_eq_some_iff.mp hx).1
        omega
      refine bC fun z_ => ?_
      (obtain ⟨a, b, q1, q2, _⟩ := z3 i hi) <;> refine z_ ?_ <;> clear z_
      refine bC fun z_ => ?_
      (obtain ⟨v, hv, rv⟩ := rl1.get q1) <;> refine z_ ?_ <;> clear z_
      refine bC fun z_ => ?_
      (obtain ⟨u, hu, ru⟩ := rl2.get q2) <;> refine z_ ?_ <;> clear z_
      rw [Array.getElem?_toList, hx] at hv
      rw [Array.getElem?_toList, hy] at hu
      cases hv; cases hu
      simp only [Rep] at rv ru
      obtain ⟨t, rfl⟩ := rv
      obtain ⟨u, rfl⟩ := ru
      refine wpAny_BinOp (wpAny_Name (wpAny_loadName_local hkind hxa hN ha (wpAny_Name (wpAny_loadName_local hkind hxb hN hb ?_) hnb)) hna)
      exact add_int ⟨⟨a, b, _, q1, q2, rfl⟩, s5.heap, _, rfl, fun _ _ e => e⟩
    · refine wpAny_items_nil ?_
      refine call_tuple_gen (hsz := by rw [passing_all, List.length_range]; omega) W.in4_3 (fun i s' st => st.1.typeIs) hat (fun b hb => ?_) List.mem_cons_self fun s6 acc hm hacc => ?_
      · show b < h5.objs.size
        rw [hsz5]
        rcases List.mem_cons.mp hb with rfl | hb
        · exact Nat.lt_succ_self _
        · rcases List.mem_cons.mp hb with rfl | hb
          · exact Nat.lt_succ_of_lt hlt
          · exact Nat.lt_succ_of_lt (Nat.lt_trans (List.mem_range.mp hb) hlt)
      · have szLe : s2.heap.objs.size ≤ h4.objs.size := Nat.le_of_lt (Nat.lt_of_le_of_lt (Nat.le_add_right _ 4) (Heap.lt_size st4.1))
        have notW : ∀ b, b < s2.heap.objs.size → b ∉ h4.objs.size :: [s2.heap.objs.size + 4, s2.heap.objs.size + 3, s2.heap.objs.size, s2.heap.objs.size + 1] := fun b hb hm => by
          rcases List.mem_cons.mp hm with e | hm
          · rw [e] at hb; exact Nat.lt_irrefl _ (Nat.lt_of_lt_of_le hb szLe)
          · exact Nat.lt_irrefl _ (Nat.lt_of_lt_of_le hb (wrGe b hm))
        have k56 : ∀ b o, b < s2.heap.objs.size → h4.get? b = some o → s6.heap.get? b = some o := fun b o hb e => hm.heap b o (notW b hb) (hk5 b o e)
        have lts : ∀ b, (s.heap.get? b).isSome = true → b < s2.heap.objs.size := fun b hb => by
          obtain ⟨o, ho⟩ := Option.isSome_iff_exists.mp (x12.keep.live hb)
          exact Heap.lt_size ho
        have kp6 : Kp s.heap s6.heap := (x3.keep.trans k4).step fun b o hb e => k56 b o (lts b hb) e
        have x6 : ExtE s s6 G G2 := ⟨kp6, x12.le, fun b o e => k56 b o (Heap.lt_size (x12.sub _ _ e)) (k4.kp b o (fun q => by rw [q, gt2] at e; cases e) (hk _ _ (x12.sub _ _ e))), x12.old, hm.os.trans x12.os, fun g => AllBare.movedS (AllBare.push (x12.gens g) hgs) hm⟩
        have n6 : s6.heap.get? s6.heap.objs.size = Option.none := fresh_none (Nat.le_refl _)
        have x7 := x6.trans (ExtE.push' (o := { cls := .type "tuple", data := .seq acc }) x6.sub)
        have g7 : G2 s6.heap.objs.size = Option.none := PH.fresh x6.sub n6
        refine ⟨_, x7.keepNew (old_none x6 n6) g7 (Heap.get?_push_size _ rfl), ?_⟩
        simp only [Rep]
        refine ⟨_, acc, 0, rfl, PH.put_self _ _ _, RepL.of_get ?_ fun i dd v hd hv => ?_⟩
        · have := hacc.1
          rw [passing_all, List.length_range] at this
          rw [Array.length_toList (xs := acc), this]; omega
        · rw [Array.getElem?_toList] at hv
          refine bC fun z_ => ?_
          (obtain ⟨j, hj, a, b, t, q1, q2, rfl⟩ := hacc.2 i v hv) <;> refine z_ ?_ <;> clear z_
          have hij : j = i := by
            rw [passing_all] at hj
            obtain ⟨hj1, hj2⟩ := List.getElem?_eq_some_iff.mp hj
            rw [List.getElem_range] at hj2
            exact hj2.symm
          subst hij
          obtain ⟨a', b', w1, w2, w3⟩ := z3 j (List.getElem?_eq_some_iff.mp hd).1
          rw [q1] at w1; rw [q2] at w2; rw [hd] at w3
          cases w1; cases w2; cases w3
          simp only [Rep]; exact ⟨t, rfl⟩
end
end Mine
end

/- part EX -/
section
open PySem PySem.W PyProof.Rows PySem.Calls PySem.Spec PyProof.V PySem.Builtin PySem.Builtin.Str
set_option maxRecDepth 10000
namespace Mine
section
variable {U : U0} {l : Nat} {C : Cx} {Z : Zz}
/- a text's parts: a new list -/
theorem SndN.split {o e : Expr} {apos pos : Pos} {x y : X} (pl : Env → Sem Bool) (h : Snd U l C Z o x) (h2 : Snd U l C Z e y) (hp : notStar e = true)
    (he : ∀ env, eval (.Call (.Attribute o (Str.ofString "split") apos) [e] [] pos) env = (do
      let ov ← eval o env
      standAt apos.atName
      let (f, first) ← holding [ov] (getMethod ov (Str.ofString "split") (pl env))
      callWith pos f first (backTo pos (starEach [e] env)) [])) : SndN U l C Z (.Call (.Attribute o (Str.ofString "split") apos) [e] [] pos) (.meth (Str.ofString "split") x [y]) := by
  intro A env s G r d hE hR hB R q
  obtain ⟨d1, q1, k_⟩ := bsome q
  obtain ⟨ds, j_, q⟩ := bsome k_
  obtain ⟨d2, q2, k_⟩ := bsome j_
  obtain ⟨ds', q3, q4⟩ := bsome k_
  cases q3; cases q4
  have q0 := q
  obtain ⟨a1, ha, qs⟩ := bsome q
  obtain ⟨b1, hb, qk⟩ := bsome ((ite_inv qs).elim (·.2) fun h => absurd rfl h.1)
  have ha := asS_inv ha; subst ha
  have hb := strD_inv hb
  cases hb
  rcases ite_inv qk with ⟨hk, e⟩ | ⟨_, e⟩
  case inr => cases e
  cases e
  refine MethodCall_ (pl := pl env) ((h A env s G r _ hE hR hB R q1).use fun v s1 G1 x1 r1 => ?_) (he env)
  refine meth_get r1 (q := (.list ((Txt.split _ _).map D.str))) (ds := [.str _]) q0 _ _ _ _ ?_
  refine callWith_builtin (plain_any (one_plain hp)) (evalArgs_all (one_plain hp) (by simp) (one_arg h2 hp hE hR (hB.keeps x1.keep) (R.ext x1) q2 fun v2 s2 G2 x2 r2 => ?_))
  have r1' := r1.mono x2.le
  simp only [Rep] at r1' r2
  obtain ⟨t, rfl⟩ := r1'
  obtain ⟨u, rfl⟩ := r2
  have hsl := sizeLine_eq
  have x12 := x1.trans x2
  refine wpAny_mono (split_ok x2.sub (by simpa using hk.1) (by omega)) (fun v s3 ⟨G3, a, x3, rt, hv, h0, hg, hd⟩ => ⟨G3, a, x12.trans x3, rt, hv, x12.keep.dead h0, hg, hd⟩) fun _ _ f => f
end
end Mine
end

/- part RA -/
section
open PySem PySem.W PyProof.Rows PySem.Calls PySem.Spec PyProof.V
set_option maxRecDepth 100000
namespace Mine
noncomputable def fdOf (P : Params) (a : Addr) : Option FuncData := match (KK P).lookup a with | some o => (match o.data with | .func fd => some fd | _ => none) | none => none
noncomputable def bodyOf (P : Params) (a : Addr) : List Stmt := match fdOf P a with | some fd => (match fd.body with | .stmts b => b | _ => []) | none => []
noncomputable def scOf (P : Params) (a : Addr) : Scope := match fdOf P a with | some fd => fd.scope | none => ⟨.function, [], false, false, []⟩
noncomputable abbrev UU (w : World) (mg mb : Str → Option Value) : U0 := ⟨pw, w, KK w.params, vw, looseW vw loosN, fun _ => none, mg, mb⟩
theorem wsc {Z : Zz} {env : Env} (hE : EnvOk Z env) {α : Type} {f : Env → α} {r : α} (h : ∀ e : Env, f { e with scope := Z.sc } = r) : f env = r := by
  have := h env
  have e : ({ env with scope := Z.sc } : Env) = env := by rw [← hE.sc]
  rwa [e] at this
noncomputable def blkCheck (scope sc : Scope) (tbl : List Str) (caps : List Nat) : Bool :=
  decide (scope.kind = .function) && scope.names.all (fun y => decide (y.2 ≠ .cell)) && scope.names.all (fun y => !(decide (y.2 = .local)) || decide (scope.names.lookup y.1 = some .local)) &&
    scope.names.all (fun y => !(decide (y.2 = .free)) || decide (sc.names.lookup y.1 = some .cell)) && caps.all (fun j => match tbl[j]? with | some x => decide (scope.names.lookup x = some .free) | none => true) && decide (sc.kind = .function)
theorem blk_of {scope sc : Scope} {tbl : List Str} {caps : List Nat} (h : blkCheck scope sc tbl caps = true) : BlkOk scope sc tbl caps := by
  simp only [blkCheck, Bool.and_eq_true, decide_eq_true_eq, List.all_eq_true, Bool.or_eq_true, Bool.not_eq_true', decide_eq_false_iff_not] at h
  refine bC fun z_ => ?_
  (obtain ⟨⟨⟨⟨⟨h1, h2⟩, h3⟩, h4⟩, h5⟩, h6⟩ := h) <;> refine z_ ?_ <;> clear z_
  refine ⟨h1, h2, fun y hy q => ?_, fun y hy q => ?_, fun j hj x hx => ?_, h6⟩
  · rcases h3 y hy with h | h
    · exact absurd q h
    · exact h
  · rcases h4 y hy with h | h
    · exact absurd q h
    · exact h
  · have := h5 j hj
    rw [hx] at this
    simpa using this
section
variable {U : U0} {l : Nat} {C : Cx} {Z : Zz}
theorem tgt1 {x : Str} {p : Pos} {i : Nat} (h : Storable Z i x) : TgtOk Z (.Name x p) [i] := .inl ⟨x, p, i, rfl, rfl, h⟩
theorem tgtN {es : List Expr} {k : Nat} {p : Pos} {is : List Nat} (h : NamesAre Z es is) (hl : is.length ≠ 1) : TgtOk Z (.Tuple es k p) is := .inr ⟨es, k, p, rfl, h, hl⟩
theorem lst_fld {c : Addr} {y : X} : ∀ r d, ev C r (.fld c y) = some d → ∃ l, d = .list l := by
  intro r d q
  obtain ⟨d1, e1, q⟩ := bsome q
  obtain ⟨p, _, q⟩ := bsome q
  obtain ⟨l0, _, q⟩ := bsome q
  exact ⟨l0, (Option.some.inj (isome q).2).symm⟩
theorem lst_comp2 {t t' : Nat} {caps : List Nat} {it it' : I} {y : X} : ∀ r d, ev C r (.comp2 t t' caps it it' y) = some d → ∃ l, d = .list l := by
  intro r d q
  obtain ⟨ds, _, k_⟩ := bsome q
  obtain ⟨_, _, k_⟩ := bsome k_
  obtain ⟨qs, _, q⟩ := bsome k_
  obtain ⟨_, rfl⟩ := lenOk_some q
  exact ⟨_, rfl⟩
theorem del0 {k : Nat} {pos : Pos} : ∀ (env : Env) (A : Around) (s : Shared), ∃ u tk, ∀ (Q : Value → Shared → Prop) (E : Value → Shared → Prop), Q (.int (if true = true then 0 else -1) u) { s with toks := tk } → wpAny (model U.prog U.w) A (eval (.Constant (.int 0) k pos) env) Q E s :=
  fun env A s => ⟨_, _, fun Q E h => wpAny_Constant_int h⟩
theorem del1 {k : Nat} {pos pos' : Pos} : ∀ (env : Env) (A : Around) (s : Shared), ∃ u tk, ∀ (Q : Value → Shared → Prop) (E : Value → Shared → Prop), Q (.int (if false = true then 0 else -1) u) { s with toks := tk } → wpAny (model U.prog U.w) A (eval (.UnaryOp .USub (.Constant (.int 1) k pos) pos') env) Q E s :=
  fun env A s => ⟨_, _, fun Q E h => wpAny_UnaryOp (wpAny_Constant_int (neg_int h))⟩
end
theorem hcls (P : Params) : ClsOk (KK P) 45 35 where
  makes := by kernel_rfl
  keep := by kernel_rfl
  init := by kernel_rfl
  fn := by kernel_rfl
  setattr := by kernel_rfl
  over := by kernel_rfl
  taker := by kernel_rfl
  dict := by kernel_rfl
  get := by kernel_rfl
  attr := by kernel_rfl
end Mine
end

/- part RB -/
section
open PySem PySem.W PyProof.Rows PySem.Calls PySem.Spec PyProof.V
set_option maxRecDepth 100000
set_option maxHeartbeats 20000000
namespace Mine
/-! _ellipsis_match -/
noncomputable def tb_ellipsis_match : List Str := [Str.ofString "want", Str.ofString "got", Str.ofString "ws", Str.ofString "startpos", Str.ofString "endpos", Str.ofString "w"]
noncomputable def zz_ellipsis_match (P : Params) : Zz := ⟨scOf P 21, tb_ellipsis_match, .ref 20⟩
noncomputable def ps_ellipsis_match : List Str := [Str.ofString "want", Str.ofString "got"]
noncomputable def ss_ellipsis_match : List S := [.ifs (.plain (.mem true (.lit (.str (Str.ofString "..."))) (.var 0))) [.ret (.cmp .eq (.var 0) (.var 1))] [], .own 2 (.meth (Str.ofString "split") (.var 0) [(.lit (.str (Str.ofString "...")))]), .assert (.plain (.cmp .ge (.len (.var 2)) (.lit (.int 2)))), .assign [3, 4] (.tup [(.lit (.int 0)), (.len (.var 1))]), .assign [5] (.sub (.var 2) (.lit (.int 0))), .ifs (.plain (.var 5)) [.ifs (.plain (.meth (Str.ofString "startswith") (.var 1) [(.var 5)])) [.assign [3] (.len (.var 5)), .delFirst 2] [.ret (.lit (.bool false))]] [], .assign [5] (.sub (.var 2) (.neg (.lit (.int 1)))), .ifs (.plain (.var 5)) [.ifs (.plain (.meth (Str.ofString "endswith") (.var 1) [(.var 5)])) [.aug 4 .sub (.len (.var 5)), .delLast 2] [.ret (.lit (.bool false))]] [], .ifs (.plain (.cmp .gt (.var 3) (.var 4))) [.ret (.lit (.bool false))] [], .fors [5] (.plain (.var 2)) [.assign [3] (.meth (Str.ofString "find") (.var 1) [(.var 5), (.var 3), (.var 4)]), .ifs (.plain (.cmp .lt (.var 3) (.lit (.int 0)))) [.ret (.lit (.bool false))] [], .aug 3 .add (.len (.var 5))], .ret (.lit (.bool true))]
theorem dv_ellipsis_match {w : World} {mg mb : Str → Option Value} {l : Nat} (hl : 1 ≤ l) (C : Cx) : SndSs (UU w mg mb) l C (zz_ellipsis_match w.params) (bodyOf w.params 21) ss_ellipsis_match :=
  (SndSs.cons (SndS.ifs (SndB.mem (n := true) (Snd.glob (v := (.str (Str.ofString "...") 189)) (by kernel_rfl) (by kernel_rfl) (by kernel_rfl) (fun _ => by simp only [Rep]; exact ⟨_, rfl⟩)) (SndO.var (by kernel_rfl) (by kernel_rfl)) rfl rfl) (SndSs.cons (SndS.ret (Snd.cmp (Snd.var (by kernel_rfl) (by kernel_rfl)) (Snd.var (by kernel_rfl) (by kernel_rfl)) hl rfl rfl)) SndSs.nil) SndSs.nil) (SndSs.cons (SndS.own (SndN.split (fun _ => _) (Snd.var (by kernel_rfl) (by kernel_rfl)) (Snd.glob (v := (.str (Str.ofString "...") 189)) (by kernel_rfl) (by kernel_rfl) (by kernel_rfl) (fun _ => by simp only [Rep]; exact ⟨_, rfl⟩)) rfl (fun _ => rfl)) ⟨by kernel_rfl, .inl (by kernel_rfl)⟩ (fun _ => rfl)) (SndSs.cons (SndS.assert (SndB.cmp (Snd.len ⟨by kernel_rfl, by kernel_rfl, by decide +kernel, by kernel_rfl, by kernel_rfl⟩ (SndO.var (by kernel_rfl) (by kernel_rfl)) rfl) Snd.int hl rfl rfl)) (SndSs.cons (SndS.assignSwap2 (Snd.tup (SndL.cons Snd.int (SndL.cons (Snd.len ⟨by kernel_rfl, by kernel_rfl, by decide +kernel, by kernel_rfl, by kernel_rfl⟩ (SndO.var (by kernel_rfl) (by kernel_rfl)) rfl) SndL.nil rfl) rfl)) ⟨by kernel_rfl, .inl (by kernel_rfl)⟩ ⟨by kernel_rfl, .inl (by kernel_rfl)⟩ (by decide) (fun _ => rfl) (fun _ hE => wsc hE fun _ => by kernel_rfl)) (SndSs.cons (SndS.assign (Snd.sub (SndO.var (by kernel_rfl) (by kernel_rfl)) Snd.int rfl) ⟨by kernel_rfl, .inl (by kernel_rfl)⟩ (fun _ => rfl)) (SndSs.cons (SndS.ifs (SndB.plain (Snd.var (by kernel_rfl) (by kernel_rfl)) rfl) (SndSs.cons (SndS.ifs (SndB.plain (Snd.meth (fun _ => _) (Snd.var (by kernel_rfl) (by kernel_rfl)) (SndL.cons (Snd.var (by kernel_rfl) (by kernel_rfl)) SndL.nil rfl) rfl (by simp) (fun _ => rfl)) rfl) (SndSs.cons (SndS.assign (Snd.len ⟨by kernel_rfl, by kernel_rfl, by decide +kernel, by kernel_rfl, by kernel_rfl⟩ (SndO.var (by kernel_rfl) (by kernel_rfl)) rfl) ⟨by kernel_rfl, .inl (by kernel_rfl)⟩ (fun _ => rfl)) (SndSs.cons (SndS.del (dp := ⟨0, 0, 0, 0⟩) (first := true) del0 (by kernel_rfl) (by kernel_rfl)) SndSs.nil)) (SndSs.cons (SndS.ret Snd.bool) SndSs.nil)) SndSs.nil) SndSs.nil) (SndSs.cons (SndS.assign (Snd.sub (SndO.var (by kernel_rfl) (by kernel_rfl)) (Snd.neg Snd.int) rfl) ⟨by kernel_rfl, .inl (by kernel_rfl)⟩ (fun _ => rfl)) (SndSs.cons (SndS.ifs (SndB.plain (Snd.var (by kernel_rfl) (by kernel_rfl)) rfl) (SndSs.cons (SndS.ifs (SndB.plain (Snd.meth (fun _ => _) (Snd.var (by kernel_rfl) (by kernel_rfl)) (SndL.cons (Snd.var (by kernel_rfl) (by kernel_rfl)) SndL.nil rfl) rfl (by simp) (fun _ => rfl)) rfl) (SndSs.cons (SndS.aug (Snd.len ⟨by kernel_rfl, by kernel_rfl, by decide +kernel, by kernel_rfl, by kernel_rfl⟩ (SndO.var (by kernel_rfl) (by kernel_rfl)) rfl) ⟨by kernel_rfl, .inl (by kernel_rfl)⟩ rfl (by kernel_rfl)) (SndSs.cons (SndS.del (dp := ⟨0, 0, 0, 0⟩) (first := false) del1 (by kernel_rfl) (by kernel_rfl)) SndSs.nil)) (SndSs.cons (SndS.ret Snd.bool) SndSs.nil)) SndSs.nil) SndSs.nil) (SndSs.cons (SndS.ifs (SndB.cmp (Snd.var (by kernel_rfl) (by kernel_rfl)) (Snd.var (by kernel_rfl) (by kernel_rfl)) hl rfl rfl) (SndSs.cons (SndS.ret Snd.bool) SndSs.nil) SndSs.nil) (SndSs.cons (SndS.fors (SndK.name (SndI.plain (Snd.var (by kernel_rfl) (by kernel_rfl)))) (tgt1 ⟨by kernel_rfl, .inl (by kernel_rfl)⟩) (SndSs.cons (SndS.assign (Snd.meth (fun _ => _) (Snd.var (by kernel_rfl) (by kernel_rfl)) (SndL.cons (Snd.var (by kernel_rfl) (by kernel_rfl)) (SndL.cons (Snd.var (by kernel_rfl) (by kernel_rfl)) (SndL.cons (Snd.var (by kernel_rfl) (by kernel_rfl)) SndL.nil rfl) rfl) rfl) rfl (by simp) (fun _ => rfl)) ⟨by kernel_rfl, .inl (by kernel_rfl)⟩ (fun _ => rfl)) (SndSs.cons (SndS.ifs (SndB.cmp (Snd.var (by kernel_rfl) (by kernel_rfl)) Snd.int hl rfl rfl) (SndSs.cons (SndS.ret Snd.bool) SndSs.nil) SndSs.nil) (SndSs.cons (SndS.aug (Snd.len ⟨by kernel_rfl, by kernel_rfl, by decide +kernel, by kernel_rfl, by kernel_rfl⟩ (SndO.var (by kernel_rfl) (by kernel_rfl)) rfl) ⟨by kernel_rfl, .inl (by kernel_rfl)⟩ rfl (by kernel_rfl)) SndSs.nil))) (fun _ _ => rfl)) (SndSs.cons (SndS.ret Snd.bool) SndSs.nil)))))))))))
/-! compare -/
noncomputable def tb_compare : List Str := [Str.ofString "self", Str.ofString "left", Str.ofString "right", Str.ofString "index", Str.ofString "direction", Str.ofString "l", Str.ofString "r"]
noncomputable def zz_compare (P : Params) : Zz := ⟨scOf P 42, tb_compare, .ref 41⟩
noncomputable def ps_compare : List Str := [Str.ofString "self", Str.ofString "left", Str.ofString "right"]
noncomputable def ss_compare : List S := [.fors [3, 4] (.plain (.fld 45 (.var 0))) [.assign [5] (.sub (.var 1) (.var 3)), .assign [6] (.sub (.var 2) (.var 3)), .ifs (.plain (.cmp .lt (.var 5) (.var 6))) [.ret (.neg (.var 4))] [], .ifs (.plain (.cmp .gt (.var 5) (.var 6))) [.ret (.var 4)] []], .ret (.lit (.int 0))]
theorem dv_compare {w : World} {mg mb : Str → Option Value} {l : Nat} (hl : 1 ≤ l) (C : Cx) : SndSs (UU w mg mb) l C (zz_compare w.params) (bodyOf w.params 42) ss_compare :=
  (SndSs.cons (SndS.fors (SndK.list (snd_fld (hcls w.params) (Snd.var (by kernel_rfl) (by kernel_rfl))) lst_fld) (tgtN ⟨⟨_, _, rfl, ⟨by kernel_rfl, .inl (by kernel_rfl)⟩⟩, ⟨_, _, rfl, ⟨by kernel_rfl, .inl (by kernel_rfl)⟩⟩, trivial⟩ (by decide)) (SndSs.cons (SndS.assign (Snd.sub (SndO.var (by kernel_rfl) (by kernel_rfl)) (Snd.var (by kernel_rfl) (by kernel_rfl)) rfl) ⟨by kernel_rfl, .inl (by kernel_rfl)⟩ (fun _ => rfl)) (SndSs.cons (SndS.assign (Snd.sub (SndO.var (by kernel_rfl) (by kernel_rfl)) (Snd.var (by kernel_rfl) (by kernel_rfl)) rfl) ⟨by kernel_rfl, .inl (by kernel_rfl)⟩ (fun _ => rfl)) (SndSs.cons (SndS.ifs (SndB.cmp (Snd.var (by kernel_rfl) (by kernel_rfl)) (Snd.var (by kernel_rfl) (by kernel_rfl)) hl rfl rfl) (SndSs.cons (SndS.ret (Snd.neg (Snd.var (by kernel_rfl) (by kernel_rfl)))) SndSs.nil) SndSs.nil) (SndSs.cons (SndS.ifs (SndB.cmp (Snd.var (by kernel_rfl) (by kernel_rfl)) (Snd.var (by kernel_rfl) (by kernel_rfl)) hl rfl rfl) (SndSs.cons (SndS.ret (Snd.var (by kernel_rfl) (by kernel_rfl))) SndSs.nil) SndSs.nil) SndSs.nil)))) (fun _ _ => rfl)) (SndSs.cons (SndS.ret Snd.int) SndSs.nil))
/-! add_func_stats -/
noncomputable def tb_add_func_stats : List Str := [Str.ofString "target", Str.ofString "source", Str.ofString "cc", Str.ofString "nc", Str.ofString "tt", Str.ofString "ct", Str.ofString "callers", Str.ofString "t_cc", Str.ofString "t_nc", Str.ofString "t_tt", Str.ofString "t_ct", Str.ofString "t_callers"]
noncomputable def zz_add_func_stats (P : Params) : Zz := ⟨scOf P 56, tb_add_func_stats, .ref 55⟩
noncomputable def ps_add_func_stats : List Str := [Str.ofString "target", Str.ofString "source"]
noncomputable def ss_add_func_stats : List S := [.assign [2, 3, 4, 5, 6] (.var 1), .assign [7, 8, 9, 10, 11] (.var 0), .ret (.tup [(.bin .add (.var 2) (.var 7)), (.bin .add (.var 3) (.var 8)), (.bin .add (.var 4) (.var 9)), (.bin .add (.var 5) (.var 10)), (.call 63 [(.var 11), (.var 6)])])]
theorem dv_add_func_stats {w : World} {mg mb : Str → Option Value} {l : Nat} (hl : 1 ≤ l) (C : Cx) (hadd_callers : CallOk (UU w mg mb) l 63 (C.Φ 63)) : SndSs (UU w mg mb) l C (zz_add_func_stats w.params) (bodyOf w.params 56) ss_add_func_stats :=
  (SndSs.cons (SndS.assignTup (Snd.var (by kernel_rfl) (by kernel_rfl)) ⟨⟨_, _, rfl, ⟨by kernel_rfl, .inl (by kernel_rfl)⟩⟩, ⟨_, _, rfl, ⟨by kernel_rfl, .inl (by kernel_rfl)⟩⟩, ⟨_, _, rfl, ⟨by kernel_rfl, .inl (by kernel_rfl)⟩⟩, ⟨_, _, rfl, ⟨by kernel_rfl, .inl (by kernel_rfl)⟩⟩, ⟨_, _, rfl, ⟨by kernel_rfl, .inl (by kernel_rfl)⟩⟩, trivial⟩ (by decide) (fun _ => rfl) (fun _ hE => wsc hE fun _ => by kernel_rfl)) (SndSs.cons (SndS.assignTup (Snd.var (by kernel_rfl) (by kernel_rfl)) ⟨⟨_, _, rfl, ⟨by kernel_rfl, .inl (by kernel_rfl)⟩⟩, ⟨_, _, rfl, ⟨by kernel_rfl, .inl (by kernel_rfl)⟩⟩, ⟨_, _, rfl, ⟨by kernel_rfl, .inl (by kernel_rfl)⟩⟩, ⟨_, _, rfl, ⟨by kernel_rfl, .inl (by kernel_rfl)⟩⟩, ⟨_, _, rfl, ⟨by kernel_rfl, .inl (by kernel_rfl)⟩⟩, trivial⟩ (by decide) (fun _ => rfl) (fun _ hE => wsc hE fun _ => by kernel_rfl)) (SndSs.cons (SndS.ret (Snd.tup (SndL.cons (Snd.bin (Snd.var (by kernel_rfl) (by kernel_rfl)) (Snd.var (by kernel_rfl) (by kernel_rfl)) rfl) (SndL.cons (Snd.bin (Snd.var (by kernel_rfl) (by kernel_rfl)) (Snd.var (by kernel_rfl) (by kernel_rfl)) rfl) (SndL.cons (Snd.bin (Snd.var (by kernel_rfl) (by kernel_rfl)) (Snd.var (by kernel_rfl) (by kernel_rfl)) rfl) (SndL.cons (Snd.bin (Snd.var (by kernel_rfl) (by kernel_rfl)) (Snd.var (by kernel_rfl) (by kernel_rfl)) rfl) (SndL.cons (Snd.call (by kernel_rfl) (by kernel_rfl) (by kernel_rfl) hadd_callers (SndL.cons (Snd.var (by kernel_rfl) (by kernel_rfl)) (SndL.cons (Snd.var (by kernel_rfl) (by kernel_rfl)) SndL.nil rfl) rfl) rfl (by simp)) SndL.nil rfl) rfl) rfl) rfl) rfl))) SndSs.nil)))
/-! add_callers -/
noncomputable def tb_add_callers : List Str := [Str.ofString "target", Str.ofString "source", Str.ofString "new_callers", Str.ofString "func", Str.ofString "caller"]
noncomputable def zz_add_callers (P : Params) : Zz := ⟨scOf P 63, tb_add_callers, .ref 62⟩
noncomputable def ps_add_callers : List Str := [Str.ofString "target", Str.ofString "source"]
noncomputable def ss_add_callers : List S := [.own 2 .dict0, .fors [3, 4] (.items (.var 0)) [.setItem 2 (.var 3) (.var 4)], .fors [3, 4] (.items (.var 1)) [.ifs (.plain (.mem false (.var 3) (.var 2))) [.ifs (.plain (.isinst (.var 4) .tuple)) [.setItem 2 (.var 3) (.zipAdd (.var 4) (.plain (.sub (.var 2) (.var 3))))] [.augSub 2 (.var 3) .add (.var 4)]] [.setItem 2 (.var 3) (.var 4)]], .ret (.var 2)]
theorem dv_add_callers {w : World} {mg mb : Str → Option Value} {l : Nat} (hl : 1 ≤ l) (C : Cx) : SndSs (UU w mg mb) l C (zz_add_callers w.params) (bodyOf w.params 63) ss_add_callers :=
  (SndSs.cons (SndS.own SndN.dict0 ⟨by kernel_rfl, .inl (by kernel_rfl)⟩ (fun _ => rfl)) (SndSs.cons (SndS.fors (SndK.items (fun _ => _) (Snd.var (by kernel_rfl) (by kernel_rfl)) (fun _ => rfl)) (tgtN ⟨⟨_, _, rfl, ⟨by kernel_rfl, .inl (by kernel_rfl)⟩⟩, ⟨_, _, rfl, ⟨by kernel_rfl, .inl (by kernel_rfl)⟩⟩, trivial⟩ (by decide)) (SndSs.cons (SndS.setItem (Snd.var (by kernel_rfl) (by kernel_rfl)) (Snd.var (by kernel_rfl) (by kernel_rfl)) (by kernel_rfl) (by kernel_rfl) (fun _ => rfl)) SndSs.nil) (fun _ _ => rfl)) (SndSs.cons (SndS.fors (SndK.items (fun _ => _) (Snd.var (by kernel_rfl) (by kernel_rfl)) (fun _ => rfl)) (tgtN ⟨⟨_, _, rfl, ⟨by kernel_rfl, .inl (by kernel_rfl)⟩⟩, ⟨_, _, rfl, ⟨by kernel_rfl, .inl (by kernel_rfl)⟩⟩, trivial⟩ (by decide)) (SndSs.cons (SndS.ifs (SndB.mem (n := false) (Snd.var (by kernel_rfl) (by kernel_rfl)) (SndO.var (by kernel_rfl) (by kernel_rfl)) rfl rfl) (SndSs.cons (SndS.ifs (SndB.plain (Snd.isinst (T := "tuple") ⟨by kernel_rfl, by kernel_rfl, by decide +kernel, by kernel_rfl, by kernel_rfl⟩ ⟨by kernel_rfl, by kernel_rfl, by decide +kernel, by kernel_rfl, by kernel_rfl⟩ rfl (Snd.var (by kernel_rfl) (by kernel_rfl)) rfl) rfl) (SndSs.cons (SndS.setItem (Snd.zipAdd (Z := zz_add_callers w.params) ⟨by kernel_rfl, by kernel_rfl, by decide +kernel, by kernel_rfl, by kernel_rfl⟩ ⟨by kernel_rfl, by kernel_rfl, by decide +kernel, by kernel_rfl, by kernel_rfl⟩ (Snd.var (by kernel_rfl) (by kernel_rfl)) (Snd.o (Snd.sub (SndO.var (by kernel_rfl) (by kernel_rfl)) (Snd.var (by kernel_rfl) (by kernel_rfl)) rfl)) rfl rfl rfl (by kernel_rfl) (by kernel_rfl) (by decide +kernel) (by kernel_rfl) (by kernel_rfl) (by kernel_rfl) (by decide +kernel) (by kernel_rfl) (by kernel_rfl)) (Snd.var (by kernel_rfl) (by kernel_rfl)) (by kernel_rfl) (by kernel_rfl) (fun _ => rfl)) SndSs.nil) (SndSs.cons (SndS.augSub (Snd.var (by kernel_rfl) (by kernel_rfl)) (Snd.var (by kernel_rfl) (by kernel_rfl)) (by kernel_rfl) (by kernel_rfl) rfl (fun _ _ _ => rfl)) SndSs.nil)) SndSs.nil) (SndSs.cons (SndS.setItem (Snd.var (by kernel_rfl) (by kernel_rfl)) (Snd.var (by kernel_rfl) (by kernel_rfl)) (by kernel_rfl) (by kernel_rfl) (fun _ => rfl)) SndSs.nil)) SndSs.nil) (fun _ _ => rfl)) (SndSs.cons (SndS.ret (Snd.var (by kernel_rfl) (by kernel_rfl))) SndSs.nil))))
/-! ISTERMINAL -/
noncomputable def tb_ISTERMINAL : List Str := [Str.ofString "x"]
noncomputable def zz_ISTERMINAL (P : Params) : Zz := ⟨scOf P 73, tb_ISTERMINAL, .ref 72⟩
noncomputable def ps_ISTERMINAL : List Str := [Str.ofString "x"]
noncomputable def ss_ISTERMINAL : List S := [.ret (.cmp .lt (.var 0) (.lit (.int 256)))]
theorem dv_ISTERMINAL {w : World} {mg mb : Str → Option Value} {l : Nat} (hl : 1 ≤ l) (C : Cx) : SndSs (UU w mg mb) l C (zz_ISTERMINAL w.params) (bodyOf w.params 73) ss_ISTERMINAL :=
  (SndSs.cons (SndS.ret (Snd.cmp (Snd.var (by kernel_rfl) (by kernel_rfl)) (Snd.glob (v := (.int 256 376)) (by kernel_rfl) (by kernel_rfl) (by kernel_rfl) (fun _ => by simp only [Rep]; exact ⟨_, rfl⟩)) hl rfl rfl)) SndSs.nil)
/-! ISNONTERMINAL -/
noncomputable def tb_ISNONTERMINAL : List Str := [Str.ofString "x"]
noncomputable def zz_ISNONTERMINAL (P : Params) : Zz := ⟨scOf P 80, tb_ISNONTERMINAL, .ref 79⟩
noncomputable def ps_ISNONTERMINAL : List Str := [Str.ofString "x"]
noncomputable def ss_ISNONTERMINAL : List S := [.ret (.cmp .ge (.var 0) (.lit (.int 256)))]
theorem dv_ISNONTERMINAL {w : World} {mg mb : Str → Option Value} {l : Nat} (hl : 1 ≤ l) (C : Cx) : SndSs (UU w mg mb) l C (zz_ISNONTERMINAL w.params) (bodyOf w.params 80) ss_ISNONTERMINAL :=
  (SndSs.cons (SndS.ret (Snd.cmp (Snd.var (by kernel_rfl) (by kernel_rfl)) (Snd.glob (v := (.int 256 376)) (by kernel_rfl) (by kernel_rfl) (by kernel_rfl) (fun _ => by simp only [Rep]; exact ⟨_, rfl⟩)) hl rfl rfl)) SndSs.nil)
/-! ISEOF -/
noncomputable def tb_ISEOF : List Str := [Str.ofString "x"]
noncomputable def zz_ISEOF (P : Params) : Zz := ⟨scOf P 87, tb_ISEOF, .ref 86⟩
noncomputable def ps_ISEOF : List Str := [Str.ofString "x"]
noncomputable def ss_ISEOF : List S := [.ret (.cmp .eq (.var 0) (.lit (.int 0)))]
theorem dv_ISEOF {w : World} {mg mb : Str → Option Value} {l : Nat} (hl : 1 ≤ l) (C : Cx) : SndSs (UU w mg mb) l C (zz_ISEOF w.params) (bodyOf w.params 87) ss_ISEOF :=
  (SndSs.cons (SndS.ret (Snd.cmp (Snd.var (by kernel_rfl) (by kernel_rfl)) (Snd.glob (v := (.int 0 278)) (by kernel_rfl) (by kernel_rfl) (by kernel_rfl) (fun _ => by simp only [Rep]; exact ⟨_, rfl⟩)) hl rfl rfl)) SndSs.nil)
/-! _law_world -/
noncomputable def tb_law_world : List Str := [Str.ofString "script", Str.ofString "cells", Str.ofString "place", Str.ofString "x", Str.ofString "a", Str.ofString "b", Str.ofString "c", Str.ofString "d", Str.ofString "e", Str.ofString "f", Str.ofString "g", Str.ofString "size", Str.ofString "ground", Str.ofString "lead", Str.ofString "first", Str.ofString "middle", Str.ofString "square"]
noncomputable def zz_law_world (P : Params) : Zz := ⟨scOf P 94, tb_law_world, .ref 93⟩
noncomputable def ps_law_world : List Str := [Str.ofString "script"]
noncomputable def ss_law_world : List S := [.own 1 (.list [(.lit (.int 5)), (.lit (.int 2)), (.lit (.int 6)), (.lit (.int 4)), (.lit (.int 8)), (.lit (.int 1)), (.lit (.int 94))]), .fors [2, 3] (.enum (.slice (.var 0) .none (some (.lit (.int 60))))) [.augSub 1 (.bin .mod (.var 2) (.lit (.int 7))) .add (.bin .mod (.var 3) (.bin .pow (.lit (.int 10)) (.lit (.int 6))))], .assign [4, 5, 6, 7, 8, 9, 10] (.var 1), .assign [11] (.sub (.plain (.list [(.lit (.int 1)), (.lit (.int 1)), (.lit (.int 2)), (.bin .add (.lit (.int 3)) (.bin .mod (.bin .fdiv (.var 7) (.lit (.int 4))) (.lit (.int 1000))))])) (.bin .mod (.var 7) (.lit (.int 4)))), .assign [12] (.sub (.plain (.list [(.lit (.int 0)), (.lit (.int 0)), (.lit (.int 1)), (.bin .sub (.bin .mod (.bin .fdiv (.var 8) (.lit (.int 4))) (.bin .pow (.lit (.int 10)) (.lit (.int 6)))) (.lit (.int 500000)))])) (.bin .mod (.var 8) (.lit (.int 4)))), .assign [13] (.sub (.plain (.list [(.lit (.int 1)), (.neg (.lit (.int 1))), (.lit (.int 2)), (.bin .sub (.neg (.lit (.int 3))) (.bin .mod (.bin .fdiv (.var 9) (.lit (.int 4))) (.lit (.int 1000))))])) (.bin .mod (.var 9) (.lit (.int 4)))), .assign [14, 15, 16] (.tup [(.bin .add (.var 12) (.bin .mul (.var 11) (.bin .sub (.bin .mod (.var 4) (.lit (.int 9))) (.lit (.int 4))))), (.bin .add (.var 12) (.bin .mul (.var 11) (.bin .sub (.bin .mod (.var 5) (.lit (.int 9))) (.lit (.int 4))))), (.bin .mul (.bin .mul (.var 11) (.var 11)) (.bin .sub (.bin .mod (.var 6) (.lit (.int 14))) (.lit (.int 4))))]), .ret (.tup [(.var 13), (.var 14), (.var 15), (.var 16), (.list [(.lit (.int 0)), (.var 14), (.var 15), (.bin .sub (.bin .add (.bin .add (.var 12) (.bin .mul (.var 11) (.bin .sub (.bin .mod (.var 10) (.lit (.int 13))) (.lit (.int 6))))) (.bin .mod (.bin .fdiv (.var 10) (.lit (.int 13))) (.lit (.int 3)))) (.lit (.int 1)))]), (.bin .fdiv (.var 10) (.lit (.int 39)))])]
theorem dv_law_world {w : World} {mg mb : Str → Option Value} {l : Nat} (hl : 1 ≤ l) (C : Cx) : SndSs (UU w mg mb) l C (zz_law_world w.params) (bodyOf w.params 94) ss_law_world :=
  (SndSs.cons (SndS.own (SndN.list (SndL.cons Snd.int (SndL.cons Snd.int (SndL.cons Snd.int (SndL.cons Snd.int (SndL.cons Snd.int (SndL.cons Snd.int (SndL.cons Snd.int SndL.nil rfl) rfl) rfl) rfl) rfl) rfl) rfl)) ⟨by kernel_rfl, .inl (by kernel_rfl)⟩ (fun _ => rfl)) (SndSs.cons (SndS.fors (SndK.enum ⟨by kernel_rfl, by kernel_rfl, by decide +kernel, by kernel_rfl, by kernel_rfl⟩ (Snd.slice (Snd.var (by kernel_rfl) (by kernel_rfl)) trivial Snd.int) rfl) (tgtN ⟨⟨_, _, rfl, ⟨by kernel_rfl, .inl (by kernel_rfl)⟩⟩, ⟨_, _, rfl, ⟨by kernel_rfl, .inl (by kernel_rfl)⟩⟩, trivial⟩ (by decide)) (SndSs.cons (SndS.augSub (Snd.bin (Snd.var (by kernel_rfl) (by kernel_rfl)) (Snd.bin Snd.int Snd.int rfl) rfl) (Snd.bin (Snd.var (by kernel_rfl) (by kernel_rfl)) Snd.int rfl) (by kernel_rfl) (by kernel_rfl) rfl (fun _ _ _ => rfl)) SndSs.nil) (fun _ _ => rfl)) (SndSs.cons (SndS.assignTup (Snd.var (by kernel_rfl) (by kernel_rfl)) ⟨⟨_, _, rfl, ⟨by kernel_rfl, .inl (by kernel_rfl)⟩⟩, ⟨_, _, rfl, ⟨by kernel_rfl, .inl (by kernel_rfl)⟩⟩, ⟨_, _, rfl, ⟨by kernel_rfl, .inl (by kernel_rfl)⟩⟩, ⟨_, _, rfl, ⟨by kernel_rfl, .inl (by kernel_rfl)⟩⟩, ⟨_, _, rfl, ⟨by kernel_rfl, .inl (by kernel_rfl)⟩⟩, ⟨_, _, rfl, ⟨by kernel_rfl, .inl (by kernel_rfl)⟩⟩, ⟨_, _, rfl, ⟨by kernel_rfl, .inl (by kernel_rfl)⟩⟩, trivial⟩ (by decide) (fun _ => rfl) (fun _ hE => wsc hE fun _ => by kernel_rfl)) (SndSs.cons (SndS.assign (Snd.sub (Snd.o (Snd.list (SndL.cons Snd.int (SndL.cons Snd.int (SndL.cons Snd.int (SndL.cons (Snd.bin Snd.int (Snd.bin (Snd.bin (Snd.var (by kernel_rfl) (by kernel_rfl)) Snd.int rfl) Snd.int rfl) rfl) SndL.nil rfl) rfl) rfl) rfl))) (Snd.bin (Snd.var (by kernel_rfl) (by kernel_rfl)) Snd.int rfl) rfl) ⟨by kernel_rfl, .inl (by kernel_rfl)⟩ (fun _ => rfl)) (SndSs.cons (SndS.assign (Snd.sub (Snd.o (Snd.list (SndL.cons Snd.int (SndL.cons Snd.int (SndL.cons Snd.int (SndL.cons (Snd.bin (Snd.bin (Snd.bin (Snd.var (by kernel_rfl) (by kernel_rfl)) Snd.int rfl) (Snd.bin Snd.int Snd.int rfl) rfl) Snd.int rfl) SndL.nil rfl) rfl) rfl) rfl))) (Snd.bin (Snd.var (by kernel_rfl) (by kernel_rfl)) Snd.int rfl) rfl) ⟨by kernel_rfl, .inl (by kernel_rfl)⟩ (fun _ => rfl)) (SndSs.cons (SndS.assign (Snd.sub (Snd.o (Snd.list (SndL.cons Snd.int (SndL.cons (Snd.neg Snd.int) (SndL.cons Snd.int (SndL.cons (Snd.bin (Snd.neg Snd.int) (Snd.bin (Snd.bin (Snd.var (by kernel_rfl) (by kernel_rfl)) Snd.int rfl) Snd.int rfl) rfl) SndL.nil rfl) rfl) rfl) rfl))) (Snd.bin (Snd.var (by kernel_rfl) (by kernel_rfl)) Snd.int rfl) rfl) ⟨by kernel_rfl, .inl (by kernel_rfl)⟩ (fun _ => rfl)) (SndSs.cons (SndS.assignSwap3 (Snd.tup (SndL.cons (Snd.bin (Snd.var (by kernel_rfl) (by kernel_rfl)) (Snd.bin (Snd.var (by kernel_rfl) (by kernel_rfl)) (Snd.bin (Snd.bin (Snd.var (by kernel_rfl) (by kernel_rfl)) Snd.int rfl) Snd.int rfl) rfl) rfl) (SndL.cons (Snd.bin (Snd.var (by kernel_rfl) (by kernel_rfl)) (Snd.bin (Snd.var (by kernel_rfl) (by kernel_rfl)) (Snd.bin (Snd.bin (Snd.var (by kernel_rfl) (by kernel_rfl)) Snd.int rfl) Snd.int rfl) rfl) rfl) (SndL.cons (Snd.bin (Snd.bin (Snd.var (by kernel_rfl) (by kernel_rfl)) (Snd.var (by kernel_rfl) (by kernel_rfl)) rfl) (Snd.bin (Snd.bin (Snd.var (by kernel_rfl) (by kernel_rfl)) Snd.int rfl) Snd.int rfl) rfl) SndL.nil rfl) rfl) rfl)) ⟨by kernel_rfl, .inl (by kernel_rfl)⟩ ⟨by kernel_rfl, .inl (by kernel_rfl)⟩ ⟨by kernel_rfl, .inl (by kernel_rfl)⟩ (by decide) (by decide) (by decide) (fun _ => rfl) (fun _ hE => wsc hE fun _ => by kernel_rfl)) (SndSs.cons (SndS.ret (Snd.tup (SndL.cons (Snd.var (by kernel_rfl) (by kernel_rfl)) (SndL.cons (Snd.var (by kernel_rfl) (by kernel_rfl)) (SndL.cons (Snd.var (by kernel_rfl) (by kernel_rfl)) (SndL.cons (Snd.var (by kernel_rfl) (by kernel_rfl)) (SndL.cons (Snd.list (SndL.cons Snd.int (SndL.cons (Snd.var (by kernel_rfl) (by kernel_rfl)) (SndL.cons (Snd.var (by kernel_rfl) (by kernel_rfl)) (SndL.cons (Snd.bin (Snd.bin (Snd.bin (Snd.var (by kernel_rfl) (by kernel_rfl)) (Snd.bin (Snd.var (by kernel_rfl) (by kernel_rfl)) (Snd.bin (Snd.bin (Snd.var (by kernel_rfl) (by kernel_rfl)) Snd.int rfl) Snd.int rfl) rfl) rfl) (Snd.bin (Snd.bin (Snd.var (by kernel_rfl) (by kernel_rfl)) Snd.int rfl) Snd.int rfl) rfl) Snd.int rfl) SndL.nil rfl) rfl) rfl) rfl)) (SndL.cons (Snd.bin (Snd.var (by kernel_rfl) (by kernel_rfl)) Snd.int rfl) SndL.nil rfl) rfl) rfl) rfl) rfl) rfl))) SndSs.nil))))))))
/-! _law_times -/
noncomputable def tb_law_times : List Str := [Str.ofString "entry", Str.ofString "factor", Str.ofString "up", Str.ofString "table", Str.ofString "power", Str.ofString "value", Str.ofString "by", Str.ofString "part", Str.ofString "n"]
noncomputable def zz_law_times (P : Params) : Zz := ⟨scOf P 99, tb_law_times, .ref 98⟩
noncomputable def ps_law_times : List Str := [Str.ofString "entry", Str.ofString "factor", Str.ofString "up"]
noncomputable def ss_law_times : List S := [.own 3 .dict0, .fors [4, 5] (.items (.sub (.var 0) (.lit (.int 4)))) [.assign [6] (.bin .mul (.var 1) (.ite (.plain (.cmp .lt (.var 2) (.lit (.int 0)))) (.var 4) (.lit (.int 1)))), .ifs (.plain (.cmp2 .le .lt (.lit (.int 0)) (.bin .add (.var 4) (.var 2)) (.lit (.int 4)))) [.setItem 3 (.bin .add (.var 4) (.var 2)) (.ite (.plain (.isinst (.var 5) .tuple)) (.tupleOf (.comp [7] [6] (.plain (.var 5)) .none (.bin .mul (.var 6) (.var 7)))) (.bin .mul (.var 6) (.var 5)))] []], .ret (.bin .add (.tupleOf (.comp [8] [0, 1, 2] (.range (.lit (.int 4))) .none (.ite (.plain (.cmp2 .le .lt (.lit (.int 0)) (.bin .sub (.var 8) (.var 2)) (.lit (.int 4)))) (.bin .mul (.bin .mul (.var 1) (.ite (.plain (.cmp .lt (.var 2) (.lit (.int 0)))) (.bin .sub (.var 8) (.var 2)) (.lit (.int 1)))) (.sub (.var 0) (.bin .sub (.var 8) (.var 2)))) (.lit (.int 0))))) (.tup [(.var 3)]))]
theorem dv_law_times {w : World} {mg mb : Str → Option Value} {l : Nat} (hl : 1 ≤ l) (C : Cx) : SndSs (UU w mg mb) l C (zz_law_times w.params) (bodyOf w.params 99) ss_law_times :=
  (SndSs.cons (SndS.own SndN.dict0 ⟨by kernel_rfl, .inl (by kernel_rfl)⟩ (fun _ => rfl)) (SndSs.cons (SndS.fors (SndK.items (fun _ => _) (Snd.sub (SndO.var (by kernel_rfl) (by kernel_rfl)) Snd.int rfl) (fun _ => rfl)) (tgtN ⟨⟨_, _, rfl, ⟨by kernel_rfl, .inl (by kernel_rfl)⟩⟩, ⟨_, _, rfl, ⟨by kernel_rfl, .inl (by kernel_rfl)⟩⟩, trivial⟩ (by decide)) (SndSs.cons (SndS.assign (Snd.bin (Snd.var (by kernel_rfl) (by kernel_rfl)) (Snd.ite (SndB.cmp (Snd.var (by kernel_rfl) (by kernel_rfl)) Snd.int hl rfl rfl) (Snd.var (by kernel_rfl) (by kernel_rfl)) Snd.int) rfl) ⟨by kernel_rfl, .inr (by kernel_rfl)⟩ (fun _ => rfl)) (SndSs.cons (SndS.ifs (SndB.cmp2 Snd.int (Snd.bin (Snd.var (by kernel_rfl) (by kernel_rfl)) (Snd.var (by kernel_rfl) (by kernel_rfl)) rfl) Snd.int hl rfl rfl rfl) (SndSs.cons (SndS.setItem (Snd.ite (SndB.plain (Snd.isinst (T := "tuple") ⟨by kernel_rfl, by kernel_rfl, by decide +kernel, by kernel_rfl, by kernel_rfl⟩ ⟨by kernel_rfl, by kernel_rfl, by decide +kernel, by kernel_rfl, by kernel_rfl⟩ rfl (Snd.var (by kernel_rfl) (by kernel_rfl)) rfl) rfl) (Snd.tupleOf ⟨by kernel_rfl, by kernel_rfl, by decide +kernel, by kernel_rfl, by kernel_rfl⟩ (Snd.comp (blk_of (by kernel_rfl)) (by kernel_rfl) (by kernel_rfl) (SndI.plain (Snd.var (by kernel_rfl) (by kernel_rfl))) trivial (Snd.bin (Snd.var (by kernel_rfl) (by kernel_rfl)) (Snd.var (by kernel_rfl) (by kernel_rfl)) rfl) (fun _ _ => rfl)) rfl) (Snd.bin (Snd.var (by kernel_rfl) (by kernel_rfl)) (Snd.var (by kernel_rfl) (by kernel_rfl)) rfl)) (Snd.bin (Snd.var (by kernel_rfl) (by kernel_rfl)) (Snd.var (by kernel_rfl) (by kernel_rfl)) rfl) (by kernel_rfl) (by kernel_rfl) (fun _ => rfl)) SndSs.nil) SndSs.nil) SndSs.nil)) (fun _ _ => rfl)) (SndSs.cons (SndS.ret (Snd.bin (Snd.tupleOf ⟨by kernel_rfl, by kernel_rfl, by decide +kernel, by kernel_rfl, by kernel_rfl⟩ (Snd.comp (blk_of (by kernel_rfl)) (by kernel_rfl) (by kernel_rfl) (SndI.range ⟨by kernel_rfl, by kernel_rfl, by decide +kernel, by kernel_rfl, by kernel_rfl⟩ Snd.int rfl) trivial (Snd.ite (SndB.cmp2 Snd.int (Snd.bin (Snd.var (by kernel_rfl) (by kernel_rfl)) (Snd.var (by kernel_rfl) (by kernel_rfl)) rfl) Snd.int hl rfl rfl rfl) (Snd.bin (Snd.bin (Snd.var (by kernel_rfl) (by kernel_rfl)) (Snd.ite (SndB.cmp (Snd.var (by kernel_rfl) (by kernel_rfl)) Snd.int hl rfl rfl) (Snd.bin (Snd.var (by kernel_rfl) (by kernel_rfl)) (Snd.var (by kernel_rfl) (by kernel_rfl)) rfl) Snd.int) rfl) (Snd.sub (SndO.var (by kernel_rfl) (by kernel_rfl)) (Snd.bin (Snd.var (by kernel_rfl) (by kernel_rfl)) (Snd.var (by kernel_rfl) (by kernel_rfl)) rfl) rfl) rfl) Snd.int) (fun _ _ => rfl)) rfl) (Snd.tup (SndL.cons (Snd.var (by kernel_rfl) (by kernel_rfl)) SndL.nil rfl)) rfl)) SndSs.nil)))
/-! _law_less -/
noncomputable def tb_law_less : List Str := [Str.ofString "entry", Str.ofString "root"]
noncomputable def zz_law_less (P : Params) : Zz := ⟨scOf P 106, tb_law_less, .ref 105⟩
noncomputable def ps_law_less : List Str := [Str.ofString "entry", Str.ofString "root"]
noncomputable def ss_law_less : List S := [.ret (.call 56 [(.call 99 [(.var 0), (.lit (.int 1)), (.lit (.int 1))]), (.call 99 [(.var 0), (.neg (.var 1)), (.lit (.int 0))])])]
theorem dv_law_less {w : World} {mg mb : Str → Option Value} {l : Nat} (hl : 1 ≤ l) (C : Cx) (hadd_func_stats : CallOk (UU w mg mb) l 56 (C.Φ 56)) (h_law_times : CallOk (UU w mg mb) l 99 (C.Φ 99)) : SndSs (UU w mg mb) l C (zz_law_less w.params) (bodyOf w.params 106) ss_law_less :=
  (SndSs.cons (SndS.ret (Snd.call (by kernel_rfl) (by kernel_rfl) (by kernel_rfl) hadd_func_stats (SndL.cons (Snd.call (by kernel_rfl) (by kernel_rfl) (by kernel_rfl) h_law_times (SndL.cons (Snd.var (by kernel_rfl) (by kernel_rfl)) (SndL.cons Snd.int (SndL.cons Snd.int SndL.nil rfl) rfl) rfl) rfl (by simp)) (SndL.cons (Snd.call (by kernel_rfl) (by kernel_rfl) (by kernel_rfl) h_law_times (SndL.cons (Snd.var (by kernel_rfl) (by kernel_rfl)) (SndL.cons (Snd.neg (Snd.var (by kernel_rfl) (by kernel_rfl))) (SndL.cons Snd.int SndL.nil rfl) rfl) rfl) rfl (by simp)) SndL.nil rfl) rfl) rfl (by simp))) SndSs.nil)
/-! _law_degree -/
noncomputable def tb_law_degree : List Str := [Str.ofString "entry", Str.ofString "n"]
noncomputable def zz_law_degree (P : Params) : Zz := ⟨scOf P 111, tb_law_degree, .ref 110⟩
noncomputable def ps_law_degree : List Str := [Str.ofString "entry"]
noncomputable def ss_law_degree : List S := [.ret (.max (.bin .add (.comp [1] [0] (.range (.lit (.int 4))) (some (.plain (.cmp .ne (.sub (.var 0) (.var 1)) (.lit (.int 0))))) (.var 1)) (.list [(.neg (.lit (.int 1)))])))]
theorem dv_law_degree {w : World} {mg mb : Str → Option Value} {l : Nat} (hl : 1 ≤ l) (C : Cx) : SndSs (UU w mg mb) l C (zz_law_degree w.params) (bodyOf w.params 111) ss_law_degree :=
  (SndSs.cons (SndS.ret (Snd.max ⟨by kernel_rfl, by kernel_rfl, by decide +kernel, by kernel_rfl, by kernel_rfl⟩ (Snd.bin (Snd.comp (blk_of (by kernel_rfl)) (by kernel_rfl) (by kernel_rfl) (SndI.range ⟨by kernel_rfl, by kernel_rfl, by decide +kernel, by kernel_rfl, by kernel_rfl⟩ Snd.int rfl) (SndB.cmp (Snd.sub (SndO.var (by kernel_rfl) (by kernel_rfl)) (Snd.var (by kernel_rfl) (by kernel_rfl)) rfl) Snd.int hl rfl rfl) (Snd.var (by kernel_rfl) (by kernel_rfl)) (fun _ _ => rfl)) (Snd.list (SndL.cons (Snd.neg Snd.int) SndL.nil rfl)) rfl) rfl)) SndSs.nil)
/-! _law_chain -/
noncomputable def tb_law_chain : List Str := [Str.ofString "entry", Str.ofString "chain", Str.ofString "turn", Str.ofString "rest", Str.ofString "low", Str.ofString "step", Str.ofString "high"]
noncomputable def zz_law_chain (P : Params) : Zz := ⟨scOf P 118, tb_law_chain, .ref 117⟩
noncomputable def ps_law_chain : List Str := [Str.ofString "entry"]
noncomputable def ss_law_chain : List S := [.own 1 (.list [(.var 0), (.call 99 [(.var 0), (.lit (.int 1)), (.neg (.lit (.int 1)))])]), .fors [2] (.range (.lit (.int 2))) [.assign [3, 4] (.tup [(.sub (.var 1) (.neg (.lit (.int 2)))), (.call 111 [(.sub (.var 1) (.neg (.lit (.int 1))))])]), .fors [5] (.range (.lit (.int 2))) [.assign [6] (.call 111 [(.var 3)]), .ifs (.plain (.cmp2 .ge .gt (.var 6) (.var 4) (.lit (.int 0)))) [.assign [3] (.call 56 [(.call 99 [(.var 3), (.abs (.sub (.plain (.sub (.var 1) (.neg (.lit (.int 1))))) (.var 4))), (.lit (.int 0))]), (.call 99 [(.sub (.var 1) (.neg (.lit (.int 1)))), (.ite (.plain (.cmp .gt (.sub (.plain (.sub (.var 1) (.neg (.lit (.int 1))))) (.var 4)) (.lit (.int 0)))) (.neg (.sub (.var 3) (.var 6))) (.sub (.var 3) (.var 6))), (.bin .sub (.var 6) (.var 4))])])] []], .ifs (.band (.plain (.cmp .gt (.var 4) (.lit (.int 0)))) (.plain (.cmp .ge (.call 111 [(.var 3)]) (.lit (.int 0))))) [.append 1 (.call 99 [(.var 3), (.neg (.lit (.int 1))), (.lit (.int 0))])] []], .ret (.var 1)]
theorem dv_law_chain {w : World} {mg mb : Str → Option Value} {l : Nat} (hl : 1 ≤ l) (C : Cx) (h_law_degree : CallOk (UU w mg mb) l 111 (C.Φ 111)) (h_law_times : CallOk (UU w mg mb) l 99 (C.Φ 99)) (hadd_func_stats : CallOk (UU w mg mb) l 56 (C.Φ 56)) : SndSs (UU w mg mb) l C (zz_law_chain w.params) (bodyOf w.params 118) ss_law_chain :=
  (SndSs.cons (SndS.own (SndN.list (SndL.cons (Snd.var (by kernel_rfl) (by kernel_rfl)) (SndL.cons (Snd.call (by kernel_rfl) (by kernel_rfl) (by kernel_rfl) h_law_times (SndL.cons (Snd.var (by kernel_rfl) (by kernel_rfl)) (SndL.cons Snd.int (SndL.cons (Snd.neg Snd.int) SndL.nil rfl) rfl) rfl) rfl (by simp)) SndL.nil rfl) rfl)) ⟨by kernel_rfl, .inl (by kernel_rfl)⟩ (fun _ => rfl)) (SndSs.cons (SndS.fors (SndK.name (SndI.range ⟨by kernel_rfl, by kernel_rfl, by decide +kernel, by kernel_rfl, by kernel_rfl⟩ Snd.int rfl)) (tgt1 ⟨by kernel_rfl, .inl (by kernel_rfl)⟩) (SndSs.cons (SndS.assignSwap2 (Snd.tup (SndL.cons (Snd.sub (SndO.var (by kernel_rfl) (by kernel_rfl)) (Snd.neg Snd.int) rfl) (SndL.cons (Snd.call (by kernel_rfl) (by kernel_rfl) (by kernel_rfl) h_law_degree (SndL.cons (Snd.sub (SndO.var (by kernel_rfl) (by kernel_rfl)) (Snd.neg Snd.int) rfl) SndL.nil rfl) rfl (by simp)) SndL.nil rfl) rfl)) ⟨by kernel_rfl, .inl (by kernel_rfl)⟩ ⟨by kernel_rfl, .inl (by kernel_rfl)⟩ (by decide) (fun _ => rfl) (fun _ hE => wsc hE fun _ => by kernel_rfl)) (SndSs.cons (SndS.fors (SndK.name (SndI.range ⟨by kernel_rfl, by kernel_rfl, by decide +kernel, by kernel_rfl, by kernel_rfl⟩ Snd.int rfl)) (tgt1 ⟨by kernel_rfl, .inl (by kernel_rfl)⟩) (SndSs.cons (SndS.assign (Snd.call (by kernel_rfl) (by kernel_rfl) (by kernel_rfl) h_law_degree (SndL.cons (Snd.var (by kernel_rfl) (by kernel_rfl)) SndL.nil rfl) rfl (by simp)) ⟨by kernel_rfl, .inl (by kernel_rfl)⟩ (fun _ => rfl)) (SndSs.cons (SndS.ifs (SndB.cmp2 (Snd.var (by kernel_rfl) (by kernel_rfl)) (Snd.var (by kernel_rfl) (by kernel_rfl)) Snd.int hl rfl rfl rfl) (SndSs.cons (SndS.assign (Snd.call (by kernel_rfl) (by kernel_rfl) (by kernel_rfl) hadd_func_stats (SndL.cons (Snd.call (by kernel_rfl) (by kernel_rfl) (by kernel_rfl) h_law_times (SndL.cons (Snd.var (by kernel_rfl) (by kernel_rfl)) (SndL.cons (Snd.abs ⟨by kernel_rfl, by kernel_rfl, by decide +kernel, by kernel_rfl, by kernel_rfl⟩ (Snd.sub (Snd.o (Snd.sub (SndO.var (by kernel_rfl) (by kernel_rfl)) (Snd.neg Snd.int) rfl)) (Snd.var (by kernel_rfl) (by kernel_rfl)) rfl) rfl) (SndL.cons Snd.int SndL.nil rfl) rfl) rfl) rfl (by simp)) (SndL.cons (Snd.call (by kernel_rfl) (by kernel_rfl) (by kernel_rfl) h_law_times (SndL.cons (Snd.sub (SndO.var (by kernel_rfl) (by kernel_rfl)) (Snd.neg Snd.int) rfl) (SndL.cons (Snd.ite (SndB.cmp (Snd.sub (Snd.o (Snd.sub (SndO.var (by kernel_rfl) (by kernel_rfl)) (Snd.neg Snd.int) rfl)) (Snd.var (by kernel_rfl) (by kernel_rfl)) rfl) Snd.int hl rfl rfl) (Snd.neg (Snd.sub (SndO.var (by kernel_rfl) (by kernel_rfl)) (Snd.var (by kernel_rfl) (by kernel_rfl)) rfl)) (Snd.sub (SndO.var (by kernel_rfl) (by kernel_rfl)) (Snd.var (by kernel_rfl) (by kernel_rfl)) rfl)) (SndL.cons (Snd.bin (Snd.var (by kernel_rfl) (by kernel_rfl)) (Snd.var (by kernel_rfl) (by kernel_rfl)) rfl) SndL.nil rfl) rfl) rfl) rfl (by simp)) SndL.nil rfl) rfl) rfl (by simp)) ⟨by kernel_rfl, .inl (by kernel_rfl)⟩ (fun _ => rfl)) SndSs.nil) SndSs.nil) SndSs.nil)) (fun _ _ => rfl)) (SndSs.cons (SndS.ifs (SndB.all (SndA.and (SndB.cmp (Snd.var (by kernel_rfl) (by kernel_rfl)) Snd.int hl rfl rfl) (SndA.one (SndB.cmp (Snd.call (by kernel_rfl) (by kernel_rfl) (by kernel_rfl) h_law_degree (SndL.cons (Snd.var (by kernel_rfl) (by kernel_rfl)) SndL.nil rfl) rfl (by simp)) Snd.int hl rfl rfl)))) (SndSs.cons (SndS.append (fun _ => _) (Snd.call (by kernel_rfl) (by kernel_rfl) (by kernel_rfl) h_law_times (SndL.cons (Snd.var (by kernel_rfl) (by kernel_rfl)) (SndL.cons (Snd.neg Snd.int) (SndL.cons Snd.int SndL.nil rfl) rfl) rfl) rfl (by simp)) (by kernel_rfl) (by kernel_rfl) rfl (fun _ => rfl) (fun _ hE => wsc hE fun _ => by kernel_rfl) (fun _ => rfl)) SndSs.nil) SndSs.nil) SndSs.nil))) (fun _ _ => rfl)) (SndSs.cons (SndS.ret (Snd.var (by kernel_rfl) (by kernel_rfl))) SndSs.nil)))
/-! _law_at -/
noncomputable def tb_law_at : List Str := [Str.ofString "entries", Str.ofString "value", Str.ofString "entry"]
noncomputable def zz_law_at (P : Params) : Zz := ⟨scOf P 123, tb_law_at, .ref 122⟩
noncomputable def ps_law_at : List Str := [Str.ofString "entries", Str.ofString "value"]
noncomputable def ss_law_at : List S := [.ret (.comp [2] [1] (.plain (.var 0)) .none (.bin .add (.bin .mul (.bin .add (.bin .mul (.bin .add (.bin .mul (.sub (.var 2) (.lit (.int 3))) (.var 1)) (.sub (.var 2) (.lit (.int 2)))) (.var 1)) (.sub (.var 2) (.lit (.int 1)))) (.var 1)) (.sub (.var 2) (.lit (.int 0)))))]
theorem dv_law_at {w : World} {mg mb : Str → Option Value} {l : Nat} (hl : 1 ≤ l) (C : Cx) : SndSs (UU w mg mb) l C (zz_law_at w.params) (bodyOf w.params 123) ss_law_at :=
  (SndSs.cons (SndS.ret (Snd.comp (blk_of (by kernel_rfl)) (by kernel_rfl) (by kernel_rfl) (SndI.plain (Snd.var (by kernel_rfl) (by kernel_rfl))) trivial (Snd.bin (Snd.bin (Snd.bin (Snd.bin (Snd.bin (Snd.bin (Snd.sub (SndO.var (by kernel_rfl) (by kernel_rfl)) Snd.int rfl) (Snd.var (by kernel_rfl) (by kernel_rfl)) rfl) (Snd.sub (SndO.var (by kernel_rfl) (by kernel_rfl)) Snd.int rfl) rfl) (Snd.var (by kernel_rfl) (by kernel_rfl)) rfl) (Snd.sub (SndO.var (by kernel_rfl) (by kernel_rfl)) Snd.int rfl) rfl) (Snd.var (by kernel_rfl) (by kernel_rfl)) rfl) (Snd.sub (SndO.var (by kernel_rfl) (by kernel_rfl)) Snd.int rfl) rfl) (fun _ _ => rfl))) SndSs.nil)
/-! _law_signs -/
noncomputable def tb_law_signs : List Str := [Str.ofString "values", Str.ofString "value"]
noncomputable def zz_law_signs (P : Params) : Zz := ⟨scOf P 128, tb_law_signs, .ref 127⟩
noncomputable def ps_law_signs : List Str := [Str.ofString "values"]
noncomputable def ss_law_signs : List S := [.ret (.meth (Str.ofString "join") (.lit (.str (Str.ofString ""))) [(.comp [1] [] (.plain (.var 0)) .none (.ite (.plain (.call 87 [(.var 1)])) (.lit (.str (Str.ofString ""))) (.ite (.plain (.call 73 [(.bin .add (.lit (.int 256)) (.var 1))])) (.lit (.str (Str.ofString "-"))) (.lit (.str (Str.ofString "+"))))))])]
theorem dv_law_signs {w : World} {mg mb : Str → Option Value} {l : Nat} (hl : 1 ≤ l) (C : Cx) (hISEOF : CallOk (UU w mg mb) l 87 (C.Φ 87)) (hISTERMINAL : CallOk (UU w mg mb) l 73 (C.Φ 73)) : SndSs (UU w mg mb) l C (zz_law_signs w.params) (bodyOf w.params 128) ss_law_signs :=
  (SndSs.cons (SndS.ret (Snd.meth (fun _ => _) Snd.str (SndL.cons (Snd.comp (blk_of (by kernel_rfl)) (by kernel_rfl) (by kernel_rfl) (SndI.plain (Snd.var (by kernel_rfl) (by kernel_rfl))) trivial (Snd.ite (SndB.plain (Snd.call (by kernel_rfl) (by kernel_rfl) (by kernel_rfl) hISEOF (SndL.cons (Snd.var (by kernel_rfl) (by kernel_rfl)) SndL.nil rfl) rfl (by simp)) rfl) Snd.str (Snd.ite (SndB.plain (Snd.call (by kernel_rfl) (by kernel_rfl) (by kernel_rfl) hISTERMINAL (SndL.cons (Snd.bin Snd.int (Snd.var (by kernel_rfl) (by kernel_rfl)) rfl) SndL.nil rfl) rfl (by simp)) rfl) Snd.str Snd.str)) (fun _ _ => rfl)) SndL.nil rfl) rfl (by simp) (fun _ => rfl))) SndSs.nil)
/-! _law_changes -/
noncomputable def tb_law_changes : List Str := [Str.ofString "signs", Str.ofString "wants", Str.ofString "want"]
noncomputable def zz_law_changes (P : Params) : Zz := ⟨scOf P 133, tb_law_changes, .ref 132⟩
noncomputable def ps_law_changes : List Str := [Str.ofString "signs"]
noncomputable def ss_law_changes : List S := [.assign [1] (.list [(.lit (.str (Str.ofString "+...-..."))), (.lit (.str (Str.ofString "+...-...+..."))), (.lit (.str (Str.ofString "+...-...+...-..."))), (.lit (.str (Str.ofString "-...+..."))), (.lit (.str (Str.ofString "-...+...-..."))), (.lit (.str (Str.ofString "-...+...-...+...")))]), .ret (.len (.plain (.comp [2] [0] (.plain (.var 1)) (some (.plain (.cmp .is (.call 21 [(.var 2), (.var 0)]) (.lit (.bool true))))) (.var 2))))]
theorem dv_law_changes {w : World} {mg mb : Str → Option Value} {l : Nat} (hl : 1 ≤ l) (C : Cx) (h_ellipsis_match : CallOk (UU w mg mb) l 21 (C.Φ 21)) : SndSs (UU w mg mb) l C (zz_law_changes w.params) (bodyOf w.params 133) ss_law_changes :=
  (SndSs.cons (SndS.assign (Snd.list (SndL.cons Snd.str (SndL.cons Snd.str (SndL.cons Snd.str (SndL.cons Snd.str (SndL.cons Snd.str (SndL.cons Snd.str SndL.nil rfl) rfl) rfl) rfl) rfl) rfl)) ⟨by kernel_rfl, .inl (by kernel_rfl)⟩ (fun _ => rfl)) (SndSs.cons (SndS.ret (Snd.len ⟨by kernel_rfl, by kernel_rfl, by decide +kernel, by kernel_rfl, by kernel_rfl⟩ (Snd.o (Snd.comp (blk_of (by kernel_rfl)) (by kernel_rfl) (by kernel_rfl) (SndI.plain (Snd.var (by kernel_rfl) (by kernel_rfl))) (SndB.cmp (Snd.call (by kernel_rfl) (by kernel_rfl) (by kernel_rfl) h_ellipsis_match (SndL.cons (Snd.var (by kernel_rfl) (by kernel_rfl)) (SndL.cons (Snd.var (by kernel_rfl) (by kernel_rfl)) SndL.nil rfl) rfl) rfl (by simp)) Snd.bool hl rfl rfl) (Snd.var (by kernel_rfl) (by kernel_rfl)) (fun _ _ => rfl))) rfl)) SndSs.nil))
/-! _law_fits -/
noncomputable def tb_law_fits : List Str := [Str.ofString "signs", Str.ofString "last", Str.ofString "dots", Str.ofString "laps", Str.ofString "wants", Str.ofString "sign", Str.ofString "n"]
noncomputable def zz_law_fits (P : Params) : Zz := ⟨scOf P 138, tb_law_fits, .ref 137⟩
noncomputable def ps_law_fits : List Str := [Str.ofString "signs"]
noncomputable def ss_law_fits : List S := [.assign [1, 2, 3] (.tup [(.slice (.var 0) (some (.neg (.lit (.int 1)))) .none), (.meth (Str.ofString "join") (.lit (.str (Str.ofString "..."))) [(.var 0)]), (.bin .add (.bin .add (.slice (.var 0) .none (some (.lit (.int 2)))) (.lit (.str (Str.ofString "...")))) (.slice (.var 0) (some (.lit (.int 1))) .none))]), .assign [4] (.list [(.var 2), (.bin .add (.bin .add (.lit (.str (Str.ofString "..."))) (.var 2)) (.lit (.str (Str.ofString "...")))), (.var 0), (.bin .add (.bin .add (.slice (.var 0) .none (some (.lit (.int 1)))) (.lit (.str (Str.ofString "...")))) (.var 1)), (.meth (Str.ofString "join") (.lit (.str (Str.ofString "..."))) [(.bin .add (.var 0) (.var 1))]), (.bin .add (.meth (Str.ofString "join") (.lit (.str (Str.ofString "..."))) [(.bin .add (.var 0) (.var 1))]) (.lit (.str (Str.ofString "...")))), (.slice (.var 0) (some (.lit (.int 1))) .none), (.var 3)]), .assign [4] (.bin .add (.var 4) (.list [(.bin .add (.bin .add (.lit (.str (Str.ofString "..."))) (.var 3)) (.lit (.str (Str.ofString "...")))), (.bin .add (.lit (.str (Str.ofString "..."))) (.ite (.plain (.cmp .eq (.var 1) (.lit (.str (Str.ofString "+"))))) (.lit (.str (Str.ofString "-"))) (.lit (.str (Str.ofString "+"))))), (.bin .add (.slice (.var 0) (some (.lit (.int 1))) .none) (.ite (.plain (.cmp .eq (.slice (.var 0) .none (some (.lit (.int 1)))) (.lit (.str (Str.ofString "+"))))) (.lit (.str (Str.ofString "-"))) (.lit (.str (Str.ofString "+")))))])), .ifs (.plain (.cmp .ne (.sum (.comp [5] [] (.plain (.var 0)) .none (.tok (.var 5)))) (.bin .add (.bin .mul (.lit (.int 14)) (.len (.var 0))) (.meth (Str.ofString "count") (.var 0) [(.lit (.str (Str.ofString "-")))])))) [.ret (.lit (.bool false))] [], .ret (.cmp .eq (.comp [6] [0, 4] (.range (.lit (.int 11))) (some (.plain (.cmp .isNot (.call 21 [(.sub (.var 4) (.var 6)), (.var 0)]) (.bor (.cmp .lt (.var 6) (.lit (.int 4))) (.band (.cmp .lt (.var 6) (.lit (.int 9))) (.cmp .eq (.var 0) (.lit (.str (Str.ofString ""))))))))) (.var 6)) (.list []))]
theorem dv_law_fits {w : World} {mg mb : Str → Option Value} {l : Nat} (hl : 1 ≤ l) (C : Cx) (h_ellipsis_match : CallOk (UU w mg mb) l 21 (C.Φ 21)) (hT : (UU w mg mb).Signs) : SndSs (UU w mg mb) l C (zz_law_fits w.params) (bodyOf w.params 138) ss_law_fits :=
  (SndSs.cons (SndS.assignSwap3 (Snd.tup (SndL.cons (Snd.slice (Snd.var (by kernel_rfl) (by kernel_rfl)) (Snd.neg Snd.int) trivial) (SndL.cons (Snd.meth (fun _ => _) Snd.str (SndL.cons (Snd.var (by kernel_rfl) (by kernel_rfl)) SndL.nil rfl) rfl (by simp) (fun _ => rfl)) (SndL.cons (Snd.bin (Snd.bin (Snd.slice (Snd.var (by kernel_rfl) (by kernel_rfl)) trivial Snd.int) Snd.str rfl) (Snd.slice (Snd.var (by kernel_rfl) (by kernel_rfl)) Snd.int trivial) rfl) SndL.nil rfl) rfl) rfl)) ⟨by kernel_rfl, .inl (by kernel_rfl)⟩ ⟨by kernel_rfl, .inl (by kernel_rfl)⟩ ⟨by kernel_rfl, .inl (by kernel_rfl)⟩ (by decide) (by decide) (by decide) (fun _ => rfl) (fun _ hE => wsc hE fun _ => by kernel_rfl)) (SndSs.cons (SndS.assign (Snd.list (SndL.cons (Snd.var (by kernel_rfl) (by kernel_rfl)) (SndL.cons (Snd.bin (Snd.bin Snd.str (Snd.var (by kernel_rfl) (by kernel_rfl)) rfl) Snd.str rfl) (SndL.cons (Snd.var (by kernel_rfl) (by kernel_rfl)) (SndL.cons (Snd.bin (Snd.bin (Snd.slice (Snd.var (by kernel_rfl) (by kernel_rfl)) trivial Snd.int) Snd.str rfl) (Snd.var (by kernel_rfl) (by kernel_rfl)) rfl) (SndL.cons (Snd.meth (fun _ => _) Snd.str (SndL.cons (Snd.bin (Snd.var (by kernel_rfl) (by kernel_rfl)) (Snd.var (by kernel_rfl) (by kernel_rfl)) rfl) SndL.nil rfl) rfl (by simp) (fun _ => rfl)) (SndL.cons (Snd.bin (Snd.meth (fun _ => _) Snd.str (SndL.cons (Snd.bin (Snd.var (by kernel_rfl) (by kernel_rfl)) (Snd.var (by kernel_rfl) (by kernel_rfl)) rfl) SndL.nil rfl) rfl (by simp) (fun _ => rfl)) Snd.str rfl) (SndL.cons (Snd.slice (Snd.var (by kernel_rfl) (by kernel_rfl)) Snd.int trivial) (SndL.cons (Snd.var (by kernel_rfl) (by kernel_rfl)) SndL.nil rfl) rfl) rfl) rfl) rfl) rfl) rfl) rfl)) ⟨by kernel_rfl, .inr (by kernel_rfl)⟩ (fun _ => rfl)) (SndSs.cons (SndS.assign (Snd.bin (Snd.var (by kernel_rfl) (by kernel_rfl)) (Snd.list (SndL.cons (Snd.bin (Snd.bin Snd.str (Snd.var (by kernel_rfl) (by kernel_rfl)) rfl) Snd.str rfl) (SndL.cons (Snd.bin Snd.str (Snd.ite (SndB.cmp (Snd.var (by kernel_rfl) (by kernel_rfl)) Snd.str hl rfl rfl) Snd.str Snd.str) rfl) (SndL.cons (Snd.bin (Snd.slice (Snd.var (by kernel_rfl) (by kernel_rfl)) Snd.int trivial) (Snd.ite (SndB.cmp (Snd.slice (Snd.var (by kernel_rfl) (by kernel_rfl)) trivial Snd.int) Snd.str hl rfl rfl) Snd.str Snd.str) rfl) SndL.nil rfl) rfl) rfl)) rfl) ⟨by kernel_rfl, .inr (by kernel_rfl)⟩ (fun _ => rfl)) (SndSs.cons (SndS.ifs (SndB.cmp (Snd.sum ⟨by kernel_rfl, by kernel_rfl, by decide +kernel, by kernel_rfl, by kernel_rfl⟩ (Snd.comp (blk_of (by kernel_rfl)) (by kernel_rfl) (by kernel_rfl) (SndI.plain (Snd.var (by kernel_rfl) (by kernel_rfl))) trivial (Snd.tok hT (by kernel_rfl) (by kernel_rfl) (by kernel_rfl) (Snd.var (by kernel_rfl) (by kernel_rfl)) rfl) (fun _ _ => rfl)) rfl) (Snd.bin (Snd.bin Snd.int (Snd.len ⟨by kernel_rfl, by kernel_rfl, by decide +kernel, by kernel_rfl, by kernel_rfl⟩ (SndO.var (by kernel_rfl) (by kernel_rfl)) rfl) rfl) (Snd.meth (fun _ => _) (Snd.var (by kernel_rfl) (by kernel_rfl)) (SndL.cons Snd.str SndL.nil rfl) rfl (by simp) (fun _ => rfl)) rfl) hl rfl rfl) (SndSs.cons (SndS.ret Snd.bool) SndSs.nil) SndSs.nil) (SndSs.cons (SndS.ret (Snd.cmp (Snd.comp (blk_of (by kernel_rfl)) (by kernel_rfl) (by kernel_rfl) (SndI.range ⟨by kernel_rfl, by kernel_rfl, by decide +kernel, by kernel_rfl, by kernel_rfl⟩ Snd.int rfl) (SndB.cmp (Snd.call (by kernel_rfl) (by kernel_rfl) (by kernel_rfl) h_ellipsis_match (SndL.cons (Snd.sub (SndO.var (by kernel_rfl) (by kernel_rfl)) (Snd.var (by kernel_rfl) (by kernel_rfl)) rfl) (SndL.cons (Snd.var (by kernel_rfl) (by kernel_rfl)) SndL.nil rfl) rfl) rfl (by simp)) (Snd.bor (Snd.cmp (Snd.var (by kernel_rfl) (by kernel_rfl)) Snd.int hl rfl rfl) (Snd.band (Snd.cmp (Snd.var (by kernel_rfl) (by kernel_rfl)) Snd.int hl rfl rfl) (Snd.cmp (Snd.var (by kernel_rfl) (by kernel_rfl)) Snd.str hl rfl rfl))) hl rfl rfl) (Snd.var (by kernel_rfl) (by kernel_rfl)) (fun _ _ => rfl)) (Snd.list SndL.nil) hl rfl rfl)) SndSs.nil)))))
/-! law -/
noncomputable def tb_law : List Str := [Str.ofString "script", Str.ofString "lead", Str.ofString "first", Str.ofString "middle", Str.ofString "square", Str.ofString "spots", Str.ofString "dress", Str.ofString "start", Str.ofString "pair", Str.ofString "more", Str.ofString "tables", Str.ofString "whole", Str.ofString "due", Str.ofString "chain", Str.ofString "slopes", Str.ofString "n", Str.ofString "entry", Str.ofString "size", Str.ofString "columns", Str.ofString "highs", Str.ofString "lows", Str.ofString "lowest", Str.ofString "twice", Str.ofString "gaps", Str.ofString "seen", Str.ofString "value", Str.ofString "values", Str.ofString "others", Str.ofString "here", Str.ofString "left", Str.ofString "right", Str.ofString "signs", Str.ofString "apart", Str.ofString "way", Str.ofString "turn", Str.ofString "rows", Str.ofString "by_spot", Str.ofString "by_gap", Str.ofString "one", Str.ofString "two", Str.ofString "told", Str.ofString "ahead", Str.ofString "column", Str.ofString "pairs", Str.ofString "judged", Str.ofString "number", Str.ofString "gap"]
noncomputable def zz_law (P : Params) : Zz := ⟨scOf P 143, tb_law, .ref 142⟩
noncomputable def ps_law : List Str := [Str.ofString "script"]
noncomputable def ss_law : List S := [.assign [1, 2, 3, 4, 5, 6] (.call 94 [(.var 0)]), .assign [7] (.tup [(.var 1), (.lit (.int 0)), (.lit (.int 0)), (.lit (.int 0)), (.dict1 (.lit (.int 0)) (.ite (.plain (.cmp .eq (.bin .mod (.var 6) (.lit (.int 2))) (.lit (.int 1)))) (.tup [(.var 1), (.neg (.var 1))]) (.var 1)))]), .assign [8, 9] (.tup [(.call 106 [(.call 106 [(.var 7), (.var 3)]), (.var 3)]), (.call 99 [(.var 7), (.neg (.var 4)), (.lit (.int 0))])]), .assign [10] (.list [(.dictOf (.sub (.var 8) (.lit (.int 4)))), (.dictOf (.sub (.var 9) (.lit (.int 4))))]), .assign [11] (.call 106 [(.call 56 [(.var 8), (.var 9)]), (.var 2)]), .assign [12] (.list [(.bin .mul (.bin .mul (.neg (.var 1)) (.var 2)) (.bin .sub (.bin .mul (.var 3) (.var 3)) (.var 4))), (.bin .mul (.var 1) (.bin .add (.bin .sub (.bin .mul (.var 3) (.var 3)) (.var 4)) (.bin .mul (.bin .mul (.lit (.int 2)) (.var 2)) (.var 3)))), (.bin .mul (.neg (.var 1)) (.bin .add (.bin .mul (.lit (.int 2)) (.var 3)) (.var 2))), (.var 1)]), .ifs (.bor (.plain (.cmp .ne (.list [(.sub (.var 8) (.lit (.int 4))), (.sub (.var 9) (.lit (.int 4)))]) (.var 10))) (.bor (.plain (.cmp .ne (.slice (.var 11) .none (some (.lit (.int 4)))) (.tupleOf (.var 12)))) (.bor (.plain (.cmp .ne (.keysOf (.sub (.var 11) (.lit (.int 4)))) (.list [(.lit (.int 3)), (.lit (.int 2)), (.lit (.int 1)), (.lit (.int 0))]))) (.plain (.cmp .ne (.comp [38] [] (.plain (.slice (.var 11) .none (some (.lit (.int 4))))) (some (.not (.plain (.isinst (.var 38) .int)))) (.var 38)) (.list [])))))) [.ret (.lit (.bool false))] [], .ownR 13 14 (.call 118 [(.var 11)]) (.list [(.var 11)]), .fors [15] (.range (.lit (.int 3))) [.append 14 (.call 99 [(.sub (.var 14) (.neg (.lit (.int 1)))), (.lit (.int 1)), (.neg (.lit (.int 1)))])], .fors [16, 17] (.zip (.bin .add (.var 13) (.var 14)) (.bin .add (.slice (.list [(.lit (.int 4)), (.lit (.int 3)), (.lit (.int 4)), (.lit (.int 4))]) .none (some (.len (.var 13)))) (.list [(.lit (.int 4)), (.lit (.int 3)), (.lit (.int 2)), (.lit (.int 1))]))) [.assign [18] (.comp [45] [6] (.plain (.slice (.var 16) .none (some (.var 17)))) .none (.ite (.plain (.cmp .eq (.bin .mod (.var 6) (.lit (.int 2))) (.lit (.int 1)))) (.tup [(.var 45), (.neg (.var 45))]) (.var 45))), .ifs (.plain (.cmp .ne (.sorted (.sub (.var 16) (.lit (.int 4)))) (.listOf (.enum (.var 18))))) [.ret (.lit (.bool false))] []], .assign [19] (.comp [16] [] (.plain (.var 13)) .none (.sub (.var 16) (.call 111 [(.var 16)]))), .assign [20] (.comp [16] [] (.plain (.var 13)) .none (.bin .mul (.sub (.var 16) (.call 111 [(.var 16)])) (.bin .pow (.neg (.lit (.int 1))) (.call 111 [(.var 16)])))), .assign [21, 22] (.tup [(.call 133 [(.call 128 [(.var 20)])]), (.cmp .eq (.bin .pow (.bin .sub (.var 2) (.var 3)) (.lit (.int 2))) (.var 4))]), .ifs (.plain (.cmp .ne (.bin .sub (.var 21) (.call 133 [(.call 128 [(.var 19)])])) (.bin .add (.ite (.plain (.cmp .lt (.var 4) (.lit (.int 0)))) (.lit (.int 0)) (.ite (.plain (.cmp .eq (.var 4) (.lit (.int 0)))) (.lit (.int 1)) (.lit (.int 2)))) (.ite (.plain (.var 22)) (.lit (.int 0)) (.lit (.int 1)))))) [.ret (.lit (.bool false))] [], .ownL 23 24 (.list []) (.bin .add (.var 20) (.var 19)), .fors [25] (.plain (.var 5)) [.assign [26, 27] (.tup [(.call 123 [(.var 13), (.var 25)]), (.call 123 [(.var 14), (.var 25)])]), .assign [28] (.ite (.plain (.cmp .le (.var 2) (.var 25))) (.lit (.int 1)) (.lit (.int 0))), .assign [29] (.ite (.band (.plain (.cmp .ge (.var 4) (.lit (.int 0)))) (.bor (.plain (.cmp .le (.var 3) (.var 25))) (.plain (.cmp .le (.bin .pow (.bin .sub (.var 3) (.var 25)) (.lit (.int 2))) (.var 4))))) (.lit (.int 1)) (.lit (.int 0))), .assign [30] (.ite (.band (.plain (.cmp .ge (.var 4) (.lit (.int 0)))) (.band (.plain (.cmp .le (.var 3) (.var 25))) (.plain (.cmp .ge (.bin .pow (.bin .sub (.var 3) (.var 25)) (.lit (.int 2))) (.var 4))))) (.lit (.int 1)) (.lit (.int 0))), .assign [31, 32] (.tup [(.call 128 [(.var 26)]), (.bin .add (.bin .add (.ite (.plain (.var 22)) (.lit (.int 0)) (.var 28)) (.var 29)) (.ite (.plain (.cmp .gt (.var 4) (.lit (.int 0)))) (.var 30) (.lit (.int 0))))]), .ifs (.bor (.plain (.cmp .ne (.cmp .eq (.var 31) (.lit (.str (Str.ofString "")))) (.bor (.band (.var 22) (.cmp .eq (.var 25) (.var 2))) (.band (.cmp .eq (.var 4) (.lit (.int 0))) (.cmp .eq (.var 25) (.var 3)))))) (.bor (.band (.plain (.cmp .ne (.var 31) (.lit (.str (Str.ofString ""))))) (.plain (.cmp .ne (.bin .sub (.var 21) (.call 133 [(.var 31)])) (.var 32)))) (.not (.plain (.call 138 [(.var 31)]))))) [.ret (.lit (.bool false))] [], .append 23 (.bin .sub (.bin .sub (.bin .sub (.bin .sub (.lit (.int 3)) (.call 133 [(.call 128 [(.var 27)])])) (.var 28)) (.var 29)) (.var 30)), .assign [24] (.bin .add (.bin .add (.var 24) (.var 26)) (.var 27))], .assign [33, 34, 35] (.tup [(.bin .sub (.lit (.int 1)) (.bin .mul (.bin .mod (.bin .fdiv (.var 6) (.lit (.int 2))) (.lit (.int 2))) (.lit (.int 2)))), (.bin .sub (.lit (.int 1)) (.bin .mul (.bin .mod (.bin .fdiv (.var 6) (.lit (.int 4))) (.lit (.int 2))) (.lit (.int 2)))), (.listOf (.zip (.var 5) (.var 23)))]), .assign [36, 37] (.tup [(.call 45 [(.list [(.tup [(.lit (.int 0)), (.var 33)]), (.tup [(.lit (.int 1)), (.var 34)])])]), (.call 45 [(.list [(.tup [(.lit (.int 1)), (.var 33)]), (.tup [(.lit (.int 0)), (.var 34)])])])]), .fors [38, 39] (.plain (.comp2 38 39 [35] (.plain (.var 35)) (.plain (.var 35)) (.tup [(.var 38), (.var 39)]))) [.assign [40, 41] (.tup [(.list [(.call 42 ((.var 36) :: [(.var 38), (.var 39)])), (.call 42 ((.var 37) :: [(.var 38), (.var 39)]))]), (.bin .sub (.cmp .gt (.sub (.var 38) (.lit (.int 0))) (.sub (.var 39) (.lit (.int 0)))) (.cmp .lt (.sub (.var 38) (.lit (.int 0))) (.sub (.var 39) (.lit (.int 0)))))]), .ifs (.bor (.plain (.cmp .ne (.var 40) (.list [(.bin .mul (.var 33) (.var 41)), (.bin .mul (.ite (.plain (.cmp .eq (.sub (.var 38) (.lit (.int 1))) (.sub (.var 39) (.lit (.int 1))))) (.var 34) (.var 33)) (.var 41))]))) (.plain (.cmp .ne (.comp [38] [] (.plain (.var 40)) (some (.bor (.plain (.isinst (.var 38) .bool)) (.not (.plain (.isinst (.var 38) .int))))) (.var 38)) (.list [])))) [.ret (.lit (.bool false))] []], .assign [42] (.list [(.sub (.var 12) (.lit (.int 3))), (.sub (.var 12) (.lit (.int 2))), (.bin .mul (.bin .sub (.bin .mul (.sub (.var 12) (.lit (.int 2))) (.sub (.var 12) (.lit (.int 1)))) (.bin .mul (.sub (.var 12) (.lit (.int 3))) (.sub (.var 12) (.lit (.int 0))))) (.sub (.var 12) (.lit (.int 2)))), (.sub (.var 12) (.lit (.int 0)))]), .assign [43] (.ite (.band (.plain (.cmp .gt (.var 3) (.lit (.int 0)))) (.bor (.plain (.cmp .lt (.var 4) (.lit (.int 0)))) (.plain (.cmp .gt (.bin .mul (.var 3) (.var 3)) (.var 4))))) (.lit (.int 2)) (.ite (.band (.plain (.cmp .ge (.var 4) (.lit (.int 0)))) (.bor (.plain (.cmp .gt (.var 3) (.lit (.int 0)))) (.plain (.cmp .lt (.bin .mul (.var 3) (.var 3)) (.var 4))))) (.lit (.int 1)) (.lit (.int 0)))), .ifs (.band (.plain (.mem true (.lit (.int 0)) (.var 42))) (.plain (.cmp .ne (.call 133 [(.call 128 [(.var 42)])]) (.bin .add (.var 43) (.ite (.plain (.cmp .gt (.var 2) (.lit (.int 0)))) (.lit (.int 1)) (.lit (.int 0))))))) [.ret (.lit (.bool false))] [], .ifs (.plain (.cmp .ne (.comp [46] [4] (.plain (.var 23)) (some (.plain (.mem true (.var 46) (.plain (.ite (.plain (.cmp .ge (.var 4) (.lit (.int 0)))) (.list [(.lit (.int 0))]) (.list [(.lit (.int 0)), (.lit (.int 2))])))))) (.var 46)) (.list []))) [.ret (.lit (.bool false))] [], .assign [44] (.comp [25] [] (.plain (.bin .add (.var 24) (.var 42))) .none (.list [(.cmp .is (.call 87 [(.var 25)]) (.cmp .eq (.var 25) (.lit (.int 0)))), (.cmp .is (.call 73 [(.bin .add (.lit (.int 256)) (.var 25))]) (.cmp .lt (.var 25) (.lit (.int 0)))), (.cmp .is (.call 80 [(.bin .add (.lit (.int 256)) (.var 25))]) (.cmp .ge (.var 25) (.lit (.int 0))))])), .ret (.cmp .eq (.var 44) (.bin .mul (.list [(.list [(.lit (.bool true)), (.lit (.bool true)), (.lit (.bool true))])]) (.len (.var 44))))]
theorem dv_law {w : World} {mg mb : Str → Option Value} {l : Nat} (hl : 1 ≤ l) (C : Cx) (hISNONTERMINAL : CallOk (UU w mg mb) l 80 (C.Φ 80)) (hISTERMINAL : CallOk (UU w mg mb) l 73 (C.Φ 73)) (hISEOF : CallOk (UU w mg mb) l 87 (C.Φ 87)) (h_law_changes : CallOk (UU w mg mb) l 133 (C.Φ 133)) (h_law_signs : CallOk (UU w mg mb) l 128 (C.Φ 128)) (hcompare : CallOk (UU w mg mb) l 42 (C.Φ 42)) (hTupleComp : CallOk (UU w mg mb) l 45 (C.Φ 45)) (h_law_fits : CallOk (UU w mg mb) l 138 (C.Φ 138)) (h_law_at : CallOk (UU w mg mb) l 123 (C.Φ 123)) (h_law_degree : CallOk (UU w mg mb) l 111 (C.Φ 111)) (h_law_times : CallOk (UU w mg mb) l 99 (C.Φ 99)) (h_law_chain : CallOk (UU w mg mb) l 118 (C.Φ 118)) (h_law_less : CallOk (UU w mg mb) l 106 (C.Φ 106)) (hadd_func_stats : CallOk (UU w mg mb) l 56 (C.Φ 56)) (h_law_world : CallOk (UU w mg mb) l 94 (C.Φ 94)) (hT : (UU w mg mb).Signs) (hinst : ∀ (r : Rho) (x : X) d, ev C r x = some d → ∀ ds q, C.Φ 42 (d :: ds) = some q → ∃ q, d = .inst 45 q) : SndSs (UU w mg mb) l C (zz_law w.params) (bodyOf w.params 143) ss_law :=
  (SndSs.cons (SndS.assignTup (Snd.call (by kernel_rfl) (by kernel_rfl) (by kernel_rfl) h_law_world (SndL.cons (Snd.var (by kernel_rfl) (by kernel_rfl)) SndL.nil rfl) rfl (by simp)) ⟨⟨_, _, rfl, ⟨by kernel_rfl, .inl (by kernel_rfl)⟩⟩, ⟨_, _, rfl, ⟨by kernel_rfl, .inl (by kernel_rfl)⟩⟩, ⟨_, _, rfl, ⟨by kernel_rfl, .inl (by kernel_rfl)⟩⟩, ⟨_, _, rfl, ⟨by kernel_rfl, .inr (by kernel_rfl)⟩⟩, ⟨_, _, rfl, ⟨by kernel_rfl, .inl (by kernel_rfl)⟩⟩, ⟨_, _, rfl, ⟨by kernel_rfl, .inr (by kernel_rfl)⟩⟩, trivial⟩ (by decide) (fun _ => rfl) (fun _ hE => wsc hE fun _ => by kernel_rfl)) (SndSs.cons (SndS.assign (Snd.tup (SndL.cons (Snd.var (by kernel_rfl) (by kernel_rfl)) (SndL.cons Snd.int (SndL.cons Snd.int (SndL.cons Snd.int (SndL.cons (Snd.dict1 Snd.int (Snd.ite (SndB.cmp (Snd.bin (Snd.var (by kernel_rfl) (by kernel_rfl)) Snd.int rfl) Snd.int hl rfl rfl) (Snd.tup (SndL.cons (Snd.var (by kernel_rfl) (by kernel_rfl)) (SndL.cons (Snd.neg (Snd.var (by kernel_rfl) (by kernel_rfl))) SndL.nil rfl) rfl)) (Snd.var (by kernel_rfl) (by kernel_rfl)))) SndL.nil rfl) rfl) rfl) rfl) rfl)) ⟨by kernel_rfl, .inl (by kernel_rfl)⟩ (fun _ => rfl)) (SndSs.cons (SndS.assignSwap2 (Snd.tup (SndL.cons (Snd.call (by kernel_rfl) (by kernel_rfl) (by kernel_rfl) h_law_less (SndL.cons (Snd.call (by kernel_rfl) (by kernel_rfl) (by kernel_rfl) h_law_less (SndL.cons (Snd.var (by kernel_rfl) (by kernel_rfl)) (SndL.cons (Snd.var (by kernel_rfl) (by kernel_rfl)) SndL.nil rfl) rfl) rfl (by simp)) (SndL.cons (Snd.var (by kernel_rfl) (by kernel_rfl)) SndL.nil rfl) rfl) rfl (by simp)) (SndL.cons (Snd.call (by kernel_rfl) (by kernel_rfl) (by kernel_rfl) h_law_times (SndL.cons (Snd.var (by kernel_rfl) (by kernel_rfl)) (SndL.cons (Snd.neg (Snd.var (by kernel_rfl) (by kernel_rfl))) (SndL.cons Snd.int SndL.nil rfl) rfl) rfl) rfl (by simp)) SndL.nil rfl) rfl)) ⟨by kernel_rfl, .inl (by kernel_rfl)⟩ ⟨by kernel_rfl, .inl (by kernel_rfl)⟩ (by decide) (fun _ => rfl) (fun _ hE => wsc hE fun _ => by kernel_rfl)) (SndSs.cons (SndS.assign (Snd.list (SndL.cons (Snd.dictOf ⟨by kernel_rfl, by kernel_rfl, by decide +kernel, by kernel_rfl, by kernel_rfl⟩ (Snd.sub (SndO.var (by kernel_rfl) (by kernel_rfl)) Snd.int rfl) rfl) (SndL.cons (Snd.dictOf ⟨by kernel_rfl, by kernel_rfl, by decide +kernel, by kernel_rfl, by kernel_rfl⟩ (Snd.sub (SndO.var (by kernel_rfl) (by kernel_rfl)) Snd.int rfl) rfl) SndL.nil rfl) rfl)) ⟨by kernel_rfl, .inl (by kernel_rfl)⟩ (fun _ => rfl)) (SndSs.cons (SndS.assign (Snd.call (by kernel_rfl) (by kernel_rfl) (by kernel_rfl) h_law_less (SndL.cons (Snd.call (by kernel_rfl) (by kernel_rfl) (by kernel_rfl) hadd_func_stats (SndL.cons (Snd.var (by kernel_rfl) (by kernel_rfl)) (SndL.cons (Snd.var (by kernel_rfl) (by kernel_rfl)) SndL.nil rfl) rfl) rfl (by simp)) (SndL.cons (Snd.var (by kernel_rfl) (by kernel_rfl)) SndL.nil rfl) rfl) rfl (by simp)) ⟨by kernel_rfl, .inl (by kernel_rfl)⟩ (fun _ => rfl)) (SndSs.cons (SndS.assign (Snd.list (SndL.cons (Snd.bin (Snd.bin (Snd.neg (Snd.var (by kernel_rfl) (by kernel_rfl))) (Snd.var (by kernel_rfl) (by kernel_rfl)) rfl) (Snd.bin (Snd.bin (Snd.var (by kernel_rfl) (by kernel_rfl)) (Snd.var (by kernel_rfl) (by kernel_rfl)) rfl) (Snd.var (by kernel_rfl) (by kernel_rfl)) rfl) rfl) (SndL.cons (Snd.bin (Snd.var (by kernel_rfl) (by kernel_rfl)) (Snd.bin (Snd.bin (Snd.bin (Snd.var (by kernel_rfl) (by kernel_rfl)) (Snd.var (by kernel_rfl) (by kernel_rfl)) rfl) (Snd.var (by kernel_rfl) (by kernel_rfl)) rfl) (Snd.bin (Snd.bin Snd.int (Snd.var (by kernel_rfl) (by kernel_rfl)) rfl) (Snd.var (by kernel_rfl) (by kernel_rfl)) rfl) rfl) rfl) (SndL.cons (Snd.bin (Snd.neg (Snd.var (by kernel_rfl) (by kernel_rfl))) (Snd.bin (Snd.bin Snd.int (Snd.var (by kernel_rfl) (by kernel_rfl)) rfl) (Snd.var (by kernel_rfl) (by kernel_rfl)) rfl) rfl) (SndL.cons (Snd.var (by kernel_rfl) (by kernel_rfl)) SndL.nil rfl) rfl) rfl) rfl)) ⟨by kernel_rfl, .inl (by kernel_rfl)⟩ (fun _ => rfl)) (SndSs.cons (SndS.ifs (SndB.all (SndA.or (SndB.cmp (Snd.list (SndL.cons (Snd.sub (SndO.var (by kernel_rfl) (by kernel_rfl)) Snd.int rfl) (SndL.cons (Snd.sub (SndO.var (by kernel_rfl) (by kernel_rfl)) Snd.int rfl) SndL.nil rfl) rfl)) (Snd.var (by kernel_rfl) (by kernel_rfl)) hl rfl rfl) (SndA.or (SndB.cmp (Snd.slice (Snd.var (by kernel_rfl) (by kernel_rfl)) trivial Snd.int) (Snd.tupleOf ⟨by kernel_rfl, by kernel_rfl, by decide +kernel, by kernel_rfl, by kernel_rfl⟩ (Snd.var (by kernel_rfl) (by kernel_rfl)) rfl) hl rfl rfl) (SndA.or (SndB.cmp (Snd.listDict ⟨by kernel_rfl, by kernel_rfl, by decide +kernel, by kernel_rfl, by kernel_rfl⟩ (Snd.sub (SndO.var (by kernel_rfl) (by kernel_rfl)) Snd.int rfl) rfl) (Snd.list (SndL.cons Snd.int (SndL.cons Snd.int (SndL.cons Snd.int (SndL.cons Snd.int SndL.nil rfl) rfl) rfl) rfl)) hl rfl rfl) (SndA.one (SndB.cmp (Snd.comp (blk_of (by kernel_rfl)) (by kernel_rfl) (by kernel_rfl) (SndI.plain (Snd.slice (Snd.var (by kernel_rfl) (by kernel_rfl)) trivial Snd.int)) (SndB.not (SndB.plain (Snd.isinst (T := "int") ⟨by kernel_rfl, by kernel_rfl, by decide +kernel, by kernel_rfl, by kernel_rfl⟩ ⟨by kernel_rfl, by kernel_rfl, by decide +kernel, by kernel_rfl, by kernel_rfl⟩ rfl (Snd.var (by kernel_rfl) (by kernel_rfl)) rfl) rfl)) (Snd.var (by kernel_rfl) (by kernel_rfl)) (fun _ _ => rfl)) (Snd.list SndL.nil) hl rfl rfl)))))) (SndSs.cons (SndS.ret Snd.bool) SndSs.nil) SndSs.nil) (SndSs.cons (SndS.ownR (Snd.call (by kernel_rfl) (by kernel_rfl) (by kernel_rfl) h_law_chain (SndL.cons (Snd.var (by kernel_rfl) (by kernel_rfl)) SndL.nil rfl) rfl (by simp)) (SndN.list (SndL.cons (Snd.var (by kernel_rfl) (by kernel_rfl)) SndL.nil rfl)) ⟨by kernel_rfl, .inl (by kernel_rfl)⟩ ⟨by kernel_rfl, .inl (by kernel_rfl)⟩ (by decide) rfl rfl (fun _ => rfl) (fun _ hE => wsc hE fun _ => by kernel_rfl)) (SndSs.cons (SndS.fors (SndK.name (SndI.range ⟨by kernel_rfl, by kernel_rfl, by decide +kernel, by kernel_rfl, by kernel_rfl⟩ Snd.int rfl)) (tgt1 ⟨by kernel_rfl, .inl (by kernel_rfl)⟩) (SndSs.cons (SndS.append (fun _ => _) (Snd.call (by kernel_rfl) (by kernel_rfl) (by kernel_rfl) h_law_times (SndL.cons (Snd.sub (SndO.var (by kernel_rfl) (by kernel_rfl)) (Snd.neg Snd.int) rfl) (SndL.cons Snd.int (SndL.cons (Snd.neg Snd.int) SndL.nil rfl) rfl) rfl) rfl (by simp)) (by kernel_rfl) (by kernel_rfl) rfl (fun _ => rfl) (fun _ hE => wsc hE fun _ => by kernel_rfl) (fun _ => rfl)) SndSs.nil) (fun _ _ => rfl)) (SndSs.cons (SndS.fors (SndK.zip ⟨by kernel_rfl, by kernel_rfl, by decide +kernel, by kernel_rfl, by kernel_rfl⟩ (Snd.bin (Snd.var (by kernel_rfl) (by kernel_rfl)) (Snd.var (by kernel_rfl) (by kernel_rfl)) rfl) (Snd.bin (Snd.slice (Snd.list (SndL.cons Snd.int (SndL.cons Snd.int (SndL.cons Snd.int (SndL.cons Snd.int SndL.nil rfl) rfl) rfl) rfl)) trivial (Snd.len ⟨by kernel_rfl, by kernel_rfl, by decide +kernel, by kernel_rfl, by kernel_rfl⟩ (SndO.var (by kernel_rfl) (by kernel_rfl)) rfl)) (Snd.list (SndL.cons Snd.int (SndL.cons Snd.int (SndL.cons Snd.int (SndL.cons Snd.int SndL.nil rfl) rfl) rfl) rfl)) rfl) rfl rfl) (tgtN ⟨⟨_, _, rfl, ⟨by kernel_rfl, .inl (by kernel_rfl)⟩⟩, ⟨_, _, rfl, ⟨by kernel_rfl, .inl (by kernel_rfl)⟩⟩, trivial⟩ (by decide)) (SndSs.cons (SndS.assignComp (blk_of (by kernel_rfl)) (by kernel_rfl) (by kernel_rfl) (SndI.plain (Snd.slice (Snd.var (by kernel_rfl) (by kernel_rfl)) trivial (Snd.var (by kernel_rfl) (by kernel_rfl)))) trivial (Snd.ite (SndB.cmp (Snd.bin (Snd.var (by kernel_rfl) (by kernel_rfl)) Snd.int rfl) Snd.int hl rfl rfl) (Snd.tup (SndL.cons (Snd.var (by kernel_rfl) (by kernel_rfl)) (SndL.cons (Snd.neg (Snd.var (by kernel_rfl) (by kernel_rfl))) SndL.nil rfl) rfl)) (Snd.var (by kernel_rfl) (by kernel_rfl))) (fun _ _ => rfl) ⟨by kernel_rfl, .inl (by kernel_rfl)⟩ (fun _ hE => wsc hE fun _ => by kernel_rfl)) (SndSs.cons (SndS.ifs (SndB.cmp (Snd.sorted ⟨by kernel_rfl, by kernel_rfl, by decide +kernel, by kernel_rfl, by kernel_rfl⟩ (fun _ => _) (Snd.sub (SndO.var (by kernel_rfl) (by kernel_rfl)) Snd.int rfl) (fun _ => rfl)) (Snd.listEnum ⟨by kernel_rfl, by kernel_rfl, by decide +kernel, by kernel_rfl, by kernel_rfl⟩ ⟨by kernel_rfl, by kernel_rfl, by decide +kernel, by kernel_rfl, by kernel_rfl⟩ (Snd.var (by kernel_rfl) (by kernel_rfl)) rfl) hl rfl rfl) (SndSs.cons (SndS.ret Snd.bool) SndSs.nil) SndSs.nil) SndSs.nil)) (fun _ _ => rfl)) (SndSs.cons (SndS.assignComp (blk_of (by kernel_rfl)) (by kernel_rfl) (by kernel_rfl) (SndI.plain (Snd.var (by kernel_rfl) (by kernel_rfl))) trivial (Snd.sub (SndO.var (by kernel_rfl) (by kernel_rfl)) (Snd.call (by kernel_rfl) (by kernel_rfl) (by kernel_rfl) h_law_degree (SndL.cons (Snd.var (by kernel_rfl) (by kernel_rfl)) SndL.nil rfl) rfl (by simp)) rfl) (fun _ _ => rfl) ⟨by kernel_rfl, .inl (by kernel_rfl)⟩ (fun _ hE => wsc hE fun _ => by kernel_rfl)) (SndSs.cons (SndS.assignComp (blk_of (by kernel_rfl)) (by kernel_rfl) (by kernel_rfl) (SndI.plain (Snd.var (by kernel_rfl) (by kernel_rfl))) trivial (Snd.bin (Snd.sub (SndO.var (by kernel_rfl) (by kernel_rfl)) (Snd.call (by kernel_rfl) (by kernel_rfl) (by kernel_rfl) h_law_degree (SndL.cons (Snd.var (by kernel_rfl) (by kernel_rfl)) SndL.nil rfl) rfl (by simp)) rfl) (Snd.bin (Snd.neg Snd.int) (Snd.call (by kernel_rfl) (by kernel_rfl) (by kernel_rfl) h_law_degree (SndL.cons (Snd.var (by kernel_rfl) (by kernel_rfl)) SndL.nil rfl) rfl (by simp)) rfl) rfl) (fun _ _ => rfl) ⟨by kernel_rfl, .inl (by kernel_rfl)⟩ (fun _ hE => wsc hE fun _ => by kernel_rfl)) (SndSs.cons (SndS.assignSwap2 (Snd.tup (SndL.cons (Snd.call (by kernel_rfl) (by kernel_rfl) (by kernel_rfl) h_law_changes (SndL.cons (Snd.call (by kernel_rfl) (by kernel_rfl) (by kernel_rfl) h_law_signs (SndL.cons (Snd.var (by kernel_rfl) (by kernel_rfl)) SndL.nil rfl) rfl (by simp)) SndL.nil rfl) rfl (by simp)) (SndL.cons (Snd.cmp (Snd.bin (Snd.bin (Snd.var (by kernel_rfl) (by kernel_rfl)) (Snd.var (by kernel_rfl) (by kernel_rfl)) rfl) Snd.int rfl) (Snd.var (by kernel_rfl) (by kernel_rfl)) hl rfl rfl) SndL.nil rfl) rfl)) ⟨by kernel_rfl, .inl (by kernel_rfl)⟩ ⟨by kernel_rfl, .inl (by kernel_rfl)⟩ (by decide) (fun _ => rfl) (fun _ hE => wsc hE fun _ => by kernel_rfl)) (SndSs.cons (SndS.ifs (SndB.cmp (Snd.bin (Snd.var (by kernel_rfl) (by kernel_rfl)) (Snd.call (by kernel_rfl) (by kernel_rfl) (by kernel_rfl) h_law_changes (SndL.cons (Snd.call (by kernel_rfl) (by kernel_rfl) (by kernel_rfl) h_law_signs (SndL.cons (Snd.var (by kernel_rfl) (by kernel_rfl)) SndL.nil rfl) rfl (by simp)) SndL.nil rfl) rfl (by simp)) rfl) (Snd.bin (Snd.ite (SndB.cmp (Snd.var (by kernel_rfl) (by kernel_rfl)) Snd.int hl rfl rfl) Snd.int (Snd.ite (SndB.cmp (Snd.var (by kernel_rfl) (by kernel_rfl)) Snd.int hl rfl rfl) Snd.int Snd.int)) (Snd.ite (SndB.plain (Snd.var (by kernel_rfl) (by kernel_rfl)) rfl) Snd.int Snd.int) rfl) hl rfl rfl) (SndSs.cons (SndS.ret Snd.bool) SndSs.nil) SndSs.nil) (SndSs.cons (SndS.ownL (SndN.list SndL.nil) (Snd.bin (Snd.var (by kernel_rfl) (by kernel_rfl)) (Snd.var (by kernel_rfl) (by kernel_rfl)) rfl) ⟨by kernel_rfl, .inl (by kernel_rfl)⟩ ⟨by kernel_rfl, .inl (by kernel_rfl)⟩ (by decide) rfl rfl (fun _ => rfl) (fun _ hE => wsc hE fun _ => by kernel_rfl)) (SndSs.cons (SndS.fors (SndK.name (SndI.plain (Snd.var (by kernel_rfl) (by kernel_rfl)))) (tgt1 ⟨by kernel_rfl, .inl (by kernel_rfl)⟩) (SndSs.cons (SndS.assignSwap2 (Snd.tup (SndL.cons (Snd.call (by kernel_rfl) (by kernel_rfl) (by kernel_rfl) h_law_at (SndL.cons (Snd.var (by kernel_rfl) (by kernel_rfl)) (SndL.cons (Snd.var (by kernel_rfl) (by kernel_rfl)) SndL.nil rfl) rfl) rfl (by simp)) (SndL.cons (Snd.call (by kernel_rfl) (by kernel_rfl) (by kernel_rfl) h_law_at (SndL.cons (Snd.var (by kernel_rfl) (by kernel_rfl)) (SndL.cons (Snd.var (by kernel_rfl) (by kernel_rfl)) SndL.nil rfl) rfl) rfl (by simp)) SndL.nil rfl) rfl)) ⟨by kernel_rfl, .inl (by kernel_rfl)⟩ ⟨by kernel_rfl, .inl (by kernel_rfl)⟩ (by decide) (fun _ => rfl) (fun _ hE => wsc hE fun _ => by kernel_rfl)) (SndSs.cons (SndS.assign (Snd.ite (SndB.cmp (Snd.var (by kernel_rfl) (by kernel_rfl)) (Snd.var (by kernel_rfl) (by kernel_rfl)) hl rfl rfl) Snd.int Snd.int) ⟨by kernel_rfl, .inl (by kernel_rfl)⟩ (fun _ => rfl)) (SndSs.cons (SndS.assign (Snd.ite (SndB.all (SndA.and (SndB.cmp (Snd.var (by kernel_rfl) (by kernel_rfl)) Snd.int hl rfl rfl) (SndA.one (SndB.all (SndA.or (SndB.cmp (Snd.var (by kernel_rfl) (by kernel_rfl)) (Snd.var (by kernel_rfl) (by kernel_rfl)) hl rfl rfl) (SndA.one (SndB.cmp (Snd.bin (Snd.bin (Snd.var (by kernel_rfl) (by kernel_rfl)) (Snd.var (by kernel_rfl) (by kernel_rfl)) rfl) Snd.int rfl) (Snd.var (by kernel_rfl) (by kernel_rfl)) hl rfl rfl))))))) Snd.int Snd.int) ⟨by kernel_rfl, .inl (by kernel_rfl)⟩ (fun _ => rfl)) (SndSs.cons (SndS.assign (Snd.ite (SndB.all (SndA.and (SndB.cmp (Snd.var (by kernel_rfl) (by kernel_rfl)) Snd.int hl rfl rfl) (SndA.and (SndB.cmp (Snd.var (by kernel_rfl) (by kernel_rfl)) (Snd.var (by kernel_rfl) (by kernel_rfl)) hl rfl rfl) (SndA.one (SndB.cmp (Snd.bin (Snd.bin (Snd.var (by kernel_rfl) (by kernel_rfl)) (Snd.var (by kernel_rfl) (by kernel_rfl)) rfl) Snd.int rfl) (Snd.var (by kernel_rfl) (by kernel_rfl)) hl rfl rfl))))) Snd.int Snd.int) ⟨by kernel_rfl, .inl (by kernel_rfl)⟩ (fun _ => rfl)) (SndSs.cons (SndS.assignSwap2 (Snd.tup (SndL.cons (Snd.call (by kernel_rfl) (by kernel_rfl) (by kernel_rfl) h_law_signs (SndL.cons (Snd.var (by kernel_rfl) (by kernel_rfl)) SndL.nil rfl) rfl (by simp)) (SndL.cons (Snd.bin (Snd.bin (Snd.ite (SndB.plain (Snd.var (by kernel_rfl) (by kernel_rfl)) rfl) Snd.int (Snd.var (by kernel_rfl) (by kernel_rfl))) (Snd.var (by kernel_rfl) (by kernel_rfl)) rfl) (Snd.ite (SndB.cmp (Snd.var (by kernel_rfl) (by kernel_rfl)) Snd.int hl rfl rfl) (Snd.var (by kernel_rfl) (by kernel_rfl)) Snd.int) rfl) SndL.nil rfl) rfl)) ⟨by kernel_rfl, .inl (by kernel_rfl)⟩ ⟨by kernel_rfl, .inl (by kernel_rfl)⟩ (by decide) (fun _ => rfl) (fun _ hE => wsc hE fun _ => by kernel_rfl)) (SndSs.cons (SndS.ifs (SndB.all (SndA.or (SndB.cmp (Snd.cmp (Snd.var (by kernel_rfl) (by kernel_rfl)) Snd.str hl rfl rfl) (Snd.bor (Snd.band (Snd.var (by kernel_rfl) (by kernel_rfl)) (Snd.cmp (Snd.var (by kernel_rfl) (by kernel_rfl)) (Snd.var (by kernel_rfl) (by kernel_rfl)) hl rfl rfl)) (Snd.band (Snd.cmp (Snd.var (by kernel_rfl) (by kernel_rfl)) Snd.int hl rfl rfl) (Snd.cmp (Snd.var (by kernel_rfl) (by kernel_rfl)) (Snd.var (by kernel_rfl) (by kernel_rfl)) hl rfl rfl))) hl rfl rfl) (SndA.or (SndB.all (SndA.and (SndB.cmp (Snd.var (by kernel_rfl) (by kernel_rfl)) Snd.str hl rfl rfl) (SndA.one (SndB.cmp (Snd.bin (Snd.var (by kernel_rfl) (by kernel_rfl)) (Snd.call (by kernel_rfl) (by kernel_rfl) (by kernel_rfl) h_law_changes (SndL.cons (Snd.var (by kernel_rfl) (by kernel_rfl)) SndL.nil rfl) rfl (by simp)) rfl) (Snd.var (by kernel_rfl) (by kernel_rfl)) hl rfl rfl)))) (SndA.one (SndB.not (SndB.plain (Snd.call (by kernel_rfl) (by kernel_rfl) (by kernel_rfl) h_law_fits (SndL.cons (Snd.var (by kernel_rfl) (by kernel_rfl)) SndL.nil rfl) rfl (by simp)) rfl)))))) (SndSs.cons (SndS.ret Snd.bool) SndSs.nil) SndSs.nil) (SndSs.cons (SndS.append (fun _ => _) (Snd.bin (Snd.bin (Snd.bin (Snd.bin Snd.int (Snd.call (by kernel_rfl) (by kernel_rfl) (by kernel_rfl) h_law_changes (SndL.cons (Snd.call (by kernel_rfl) (by kernel_rfl) (by kernel_rfl) h_law_signs (SndL.cons (Snd.var (by kernel_rfl) (by kernel_rfl)) SndL.nil rfl) rfl (by simp)) SndL.nil rfl) rfl (by simp)) rfl) (Snd.var (by kernel_rfl) (by kernel_rfl)) rfl) (Snd.var (by kernel_rfl) (by kernel_rfl)) rfl) (Snd.var (by kernel_rfl) (by kernel_rfl)) rfl) (by kernel_rfl) (by kernel_rfl) rfl (fun _ => rfl) (fun _ hE => wsc hE fun _ => by kernel_rfl) (fun _ => rfl)) (SndSs.cons (SndS.assign (Snd.bin (Snd.bin (Snd.var (by kernel_rfl) (by kernel_rfl)) (Snd.var (by kernel_rfl) (by kernel_rfl)) rfl) (Snd.var (by kernel_rfl) (by kernel_rfl)) rfl) ⟨by kernel_rfl, .inl (by kernel_rfl)⟩ (fun _ => rfl)) SndSs.nil)))))))) (fun _ _ => rfl)) (SndSs.cons (SndS.assignTup (Snd.tup (SndL.cons (Snd.bin Snd.int (Snd.bin (Snd.bin (Snd.bin (Snd.var (by kernel_rfl) (by kernel_rfl)) Snd.int rfl) Snd.int rfl) Snd.int rfl) rfl) (SndL.cons (Snd.bin Snd.int (Snd.bin (Snd.bin (Snd.bin (Snd.var (by kernel_rfl) (by kernel_rfl)) Snd.int rfl) Snd.int rfl) Snd.int rfl) rfl) (SndL.cons (Snd.listZip ⟨by kernel_rfl, by kernel_rfl, by decide +kernel, by kernel_rfl, by kernel_rfl⟩ ⟨by kernel_rfl, by kernel_rfl, by decide +kernel, by kernel_rfl, by kernel_rfl⟩ (Snd.var (by kernel_rfl) (by kernel_rfl)) (Snd.var (by kernel_rfl) (by kernel_rfl)) rfl rfl) SndL.nil rfl) rfl) rfl)) ⟨⟨_, _, rfl, ⟨by kernel_rfl, .inl (by kernel_rfl)⟩⟩, ⟨_, _, rfl, ⟨by kernel_rfl, .inl (by kernel_rfl)⟩⟩, ⟨_, _, rfl, ⟨by kernel_rfl, .inr (by kernel_rfl)⟩⟩, trivial⟩ (by decide) (fun _ => rfl) (fun _ hE => wsc hE fun _ => by kernel_rfl)) (SndSs.cons (SndS.assignSwap2 (Snd.tup (SndL.cons (Snd.call (by kernel_rfl) (by kernel_rfl) (by kernel_rfl) hTupleComp (SndL.cons (Snd.list (SndL.cons (Snd.tup (SndL.cons Snd.int (SndL.cons (Snd.var (by kernel_rfl) (by kernel_rfl)) SndL.nil rfl) rfl)) (SndL.cons (Snd.tup (SndL.cons Snd.int (SndL.cons (Snd.var (by kernel_rfl) (by kernel_rfl)) SndL.nil rfl) rfl)) SndL.nil rfl) rfl)) SndL.nil rfl) rfl (by simp)) (SndL.cons (Snd.call (by kernel_rfl) (by kernel_rfl) (by kernel_rfl) hTupleComp (SndL.cons (Snd.list (SndL.cons (Snd.tup (SndL.cons Snd.int (SndL.cons (Snd.var (by kernel_rfl) (by kernel_rfl)) SndL.nil rfl) rfl)) (SndL.cons (Snd.tup (SndL.cons Snd.int (SndL.cons (Snd.var (by kernel_rfl) (by kernel_rfl)) SndL.nil rfl) rfl)) SndL.nil rfl) rfl)) SndL.nil rfl) rfl (by simp)) SndL.nil rfl) rfl)) ⟨by kernel_rfl, .inl (by kernel_rfl)⟩ ⟨by kernel_rfl, .inl (by kernel_rfl)⟩ (by decide) (fun _ => rfl) (fun _ hE => wsc hE fun _ => by kernel_rfl)) (SndSs.cons (SndS.fors (SndK.list (Snd.comp2 (blk_of (by kernel_rfl)) (by decide +kernel) (by kernel_rfl) (by kernel_rfl) (by kernel_rfl) (by kernel_rfl) (SndI.plain (Snd.var (by kernel_rfl) (by kernel_rfl))) (SndI.plain (Snd.var (by kernel_rfl) (by kernel_rfl))) (Snd.tup (SndL.cons (Snd.var (by kernel_rfl) (by kernel_rfl)) (SndL.cons (Snd.var (by kernel_rfl) (by kernel_rfl)) SndL.nil rfl) rfl)) (fun _ _ => rfl) (fun _ _ => rfl)) lst_comp2) (tgtN ⟨⟨_, _, rfl, ⟨by kernel_rfl, .inl (by kernel_rfl)⟩⟩, ⟨_, _, rfl, ⟨by kernel_rfl, .inl (by kernel_rfl)⟩⟩, trivial⟩ (by decide)) (SndSs.cons (SndS.assignSwap2 (Snd.tup (SndL.cons (Snd.list (SndL.cons (snd_inst (fun _ => _) (hcls w.params) (by kernel_rfl) (by kernel_rfl) (by decide +kernel) hcompare (Snd.var (by kernel_rfl) (by kernel_rfl)) (SndL.cons (Snd.var (by kernel_rfl) (by kernel_rfl)) (SndL.cons (Snd.var (by kernel_rfl) (by kernel_rfl)) SndL.nil rfl) rfl) rfl (by simp) (fun r d => hinst r _ d) (fun _ => rfl)) (SndL.cons (snd_inst (fun _ => _) (hcls w.params) (by kernel_rfl) (by kernel_rfl) (by decide +kernel) hcompare (Snd.var (by kernel_rfl) (by kernel_rfl)) (SndL.cons (Snd.var (by kernel_rfl) (by kernel_rfl)) (SndL.cons (Snd.var (by kernel_rfl) (by kernel_rfl)) SndL.nil rfl) rfl) rfl (by simp) (fun r d => hinst r _ d) (fun _ => rfl)) SndL.nil rfl) rfl)) (SndL.cons (Snd.bin (Snd.cmp (Snd.sub (SndO.var (by kernel_rfl) (by kernel_rfl)) Snd.int rfl) (Snd.sub (SndO.var (by kernel_rfl) (by kernel_rfl)) Snd.int rfl) hl rfl rfl) (Snd.cmp (Snd.sub (SndO.var (by kernel_rfl) (by kernel_rfl)) Snd.int rfl) (Snd.sub (SndO.var (by kernel_rfl) (by kernel_rfl)) Snd.int rfl) hl rfl rfl) rfl) SndL.nil rfl) rfl)) ⟨by kernel_rfl, .inl (by kernel_rfl)⟩ ⟨by kernel_rfl, .inl (by kernel_rfl)⟩ (by decide) (fun _ => rfl) (fun _ hE => wsc hE fun _ => by kernel_rfl)) (SndSs.cons (SndS.ifs (SndB.all (SndA.or (SndB.cmp (Snd.var (by kernel_rfl) (by kernel_rfl)) (Snd.list (SndL.cons (Snd.bin (Snd.var (by kernel_rfl) (by kernel_rfl)) (Snd.var (by kernel_rfl) (by kernel_rfl)) rfl) (SndL.cons (Snd.bin (Snd.ite (SndB.cmp (Snd.sub (SndO.var (by kernel_rfl) (by kernel_rfl)) Snd.int rfl) (Snd.sub (SndO.var (by kernel_rfl) (by kernel_rfl)) Snd.int rfl) hl rfl rfl) (Snd.var (by kernel_rfl) (by kernel_rfl)) (Snd.var (by kernel_rfl) (by kernel_rfl))) (Snd.var (by kernel_rfl) (by kernel_rfl)) rfl) SndL.nil rfl) rfl)) hl rfl rfl) (SndA.one (SndB.cmp (Snd.comp (blk_of (by kernel_rfl)) (by kernel_rfl) (by kernel_rfl) (SndI.plain (Snd.var (by kernel_rfl) (by kernel_rfl))) (SndB.all (SndA.or (SndB.plain (Snd.isinst (T := "bool") ⟨by kernel_rfl, by kernel_rfl, by decide +kernel, by kernel_rfl, by kernel_rfl⟩ ⟨by kernel_rfl, by kernel_rfl, by decide +kernel, by kernel_rfl, by kernel_rfl⟩ rfl (Snd.var (by kernel_rfl) (by kernel_rfl)) rfl) rfl) (SndA.one (SndB.not (SndB.plain (Snd.isinst (T := "int") ⟨by kernel_rfl, by kernel_rfl, by decide +kernel, by kernel_rfl, by kernel_rfl⟩ ⟨by kernel_rfl, by kernel_rfl, by decide +kernel, by kernel_rfl, by kernel_rfl⟩ rfl (Snd.var (by kernel_rfl) (by kernel_rfl)) rfl) rfl))))) (Snd.var (by kernel_rfl) (by kernel_rfl)) (fun _ _ => rfl)) (Snd.list SndL.nil) hl rfl rfl)))) (SndSs.cons (SndS.ret Snd.bool) SndSs.nil) SndSs.nil) SndSs.nil)) (fun _ _ => rfl)) (SndSs.cons (SndS.assign (Snd.list (SndL.cons (Snd.sub (SndO.var (by kernel_rfl) (by kernel_rfl)) Snd.int rfl) (SndL.cons (Snd.sub (SndO.var (by kernel_rfl) (by kernel_rfl)) Snd.int rfl) (SndL.cons (Snd.bin (Snd.bin (Snd.bin (Snd.sub (SndO.var (by kernel_rfl) (by kernel_rfl)) Snd.int rfl) (Snd.sub (SndO.var (by kernel_rfl) (by kernel_rfl)) Snd.int rfl) rfl) (Snd.bin (Snd.sub (SndO.var (by kernel_rfl) (by kernel_rfl)) Snd.int rfl) (Snd.sub (SndO.var (by kernel_rfl) (by kernel_rfl)) Snd.int rfl) rfl) rfl) (Snd.sub (SndO.var (by kernel_rfl) (by kernel_rfl)) Snd.int rfl) rfl) (SndL.cons (Snd.sub (SndO.var (by kernel_rfl) (by kernel_rfl)) Snd.int rfl) SndL.nil rfl) rfl) rfl) rfl)) ⟨by kernel_rfl, .inl (by kernel_rfl)⟩ (fun _ => rfl)) (SndSs.cons (SndS.assign (Snd.ite (SndB.all (SndA.and (SndB.cmp (Snd.var (by kernel_rfl) (by kernel_rfl)) Snd.int hl rfl rfl) (SndA.one (SndB.all (SndA.or (SndB.cmp (Snd.var (by kernel_rfl) (by kernel_rfl)) Snd.int hl rfl rfl) (SndA.one (SndB.cmp (Snd.bin (Snd.var (by kernel_rfl) (by kernel_rfl)) (Snd.var (by kernel_rfl) (by kernel_rfl)) rfl) (Snd.var (by kernel_rfl) (by kernel_rfl)) hl rfl rfl))))))) Snd.int (Snd.ite (SndB.all (SndA.and (SndB.cmp (Snd.var (by kernel_rfl) (by kernel_rfl)) Snd.int hl rfl rfl) (SndA.one (SndB.all (SndA.or (SndB.cmp (Snd.var (by kernel_rfl) (by kernel_rfl)) Snd.int hl rfl rfl) (SndA.one (SndB.cmp (Snd.bin (Snd.var (by kernel_rfl) (by kernel_rfl)) (Snd.var (by kernel_rfl) (by kernel_rfl)) rfl) (Snd.var (by kernel_rfl) (by kernel_rfl)) hl rfl rfl))))))) Snd.int Snd.int)) ⟨by kernel_rfl, .inl (by kernel_rfl)⟩ (fun _ => rfl)) (SndSs.cons (SndS.ifs (SndB.all (SndA.and (SndB.mem (n := true) Snd.int (SndO.var (by kernel_rfl) (by kernel_rfl)) rfl rfl) (SndA.one (SndB.cmp (Snd.call (by kernel_rfl) (by kernel_rfl) (by kernel_rfl) h_law_changes (SndL.cons (Snd.call (by kernel_rfl) (by kernel_rfl) (by kernel_rfl) h_law_signs (SndL.cons (Snd.var (by kernel_rfl) (by kernel_rfl)) SndL.nil rfl) rfl (by simp)) SndL.nil rfl) rfl (by simp)) (Snd.bin (Snd.var (by kernel_rfl) (by kernel_rfl)) (Snd.ite (SndB.cmp (Snd.var (by kernel_rfl) (by kernel_rfl)) Snd.int hl rfl rfl) Snd.int Snd.int) rfl) hl rfl rfl)))) (SndSs.cons (SndS.ret Snd.bool) SndSs.nil) SndSs.nil) (SndSs.cons (SndS.ifs (SndB.cmp (Snd.comp (blk_of (by kernel_rfl)) (by kernel_rfl) (by kernel_rfl) (SndI.plain (Snd.var (by kernel_rfl) (by kernel_rfl))) (SndB.mem (n := true) (Snd.var (by kernel_rfl) (by kernel_rfl)) (Snd.o (Snd.ite (SndB.cmp (Snd.var (by kernel_rfl) (by kernel_rfl)) Snd.int hl rfl rfl) (Snd.list (SndL.cons Snd.int SndL.nil rfl)) (Snd.list (SndL.cons Snd.int (SndL.cons Snd.int SndL.nil rfl) rfl)))) rfl rfl) (Snd.var (by kernel_rfl) (by kernel_rfl)) (fun _ _ => rfl)) (Snd.list SndL.nil) hl rfl rfl) (SndSs.cons (SndS.ret Snd.bool) SndSs.nil) SndSs.nil) (SndSs.cons (SndS.assignComp (blk_of (by kernel_rfl)) (by kernel_rfl) (by kernel_rfl) (SndI.plain (Snd.bin (Snd.var (by kernel_rfl) (by kernel_rfl)) (Snd.var (by kernel_rfl) (by kernel_rfl)) rfl)) trivial (Snd.list (SndL.cons (Snd.cmp (Snd.call (by kernel_rfl) (by kernel_rfl) (by kernel_rfl) hISEOF (SndL.cons (Snd.var (by kernel_rfl) (by kernel_rfl)) SndL.nil rfl) rfl (by simp)) (Snd.cmp (Snd.var (by kernel_rfl) (by kernel_rfl)) Snd.int hl rfl rfl) hl rfl rfl) (SndL.cons (Snd.cmp (Snd.call (by kernel_rfl) (by kernel_rfl) (by kernel_rfl) hISTERMINAL (SndL.cons (Snd.bin Snd.int (Snd.var (by kernel_rfl) (by kernel_rfl)) rfl) SndL.nil rfl) rfl (by simp)) (Snd.cmp (Snd.var (by kernel_rfl) (by kernel_rfl)) Snd.int hl rfl rfl) hl rfl rfl) (SndL.cons (Snd.cmp (Snd.call (by kernel_rfl) (by kernel_rfl) (by kernel_rfl) hISNONTERMINAL (SndL.cons (Snd.bin Snd.int (Snd.var (by kernel_rfl) (by kernel_rfl)) rfl) SndL.nil rfl) rfl (by simp)) (Snd.cmp (Snd.var (by kernel_rfl) (by kernel_rfl)) Snd.int hl rfl rfl) hl rfl rfl) SndL.nil rfl) rfl) rfl)) (fun _ _ => rfl) ⟨by kernel_rfl, .inl (by kernel_rfl)⟩ (fun _ hE => wsc hE fun _ => by kernel_rfl)) (SndSs.cons (SndS.ret (Snd.cmp (Snd.var (by kernel_rfl) (by kernel_rfl)) (Snd.bin (Snd.list (SndL.cons (Snd.list (SndL.cons Snd.bool (SndL.cons Snd.bool (SndL.cons Snd.bool SndL.nil rfl) rfl) rfl)) SndL.nil rfl)) (Snd.len ⟨by kernel_rfl, by kernel_rfl, by decide +kernel, by kernel_rfl, by kernel_rfl⟩ (SndO.var (by kernel_rfl) (by kernel_rfl)) rfl) rfl) hl rfl rfl)) SndSs.nil)))))))))))))))))))))))))
end Mine
end

/- part RC -/
section
open PySem PySem.W PyProof.Rows PySem.Calls PySem.Spec PyProof.V
set_option maxRecDepth 100000
set_option maxHeartbeats 20000000
namespace Mine
noncomputable def fdG (P : Params) (a : Addr) (h : (fdOf P a).isSome = true) : FuncData := (fdOf P a).get h
theorem def_at {P : Params} {a : Addr} {Z : Zz} {ps : List Str} (h : (fdOf P a).isSome = true) (h1 : (fdG P a h).body = .stmts (bodyOf P a)) (h2 : (fdG P a h).scope = Z.sc) (h3 : (fdG P a h).code = Z.code) (h4 : (fdG P a h).closure = []) (h5 : (fdG P a h).globals = mainGlobals) (h6 : (fdG P a h).builtins = builtinsNs)
    (h7 : codeIn (KK P) (fdG P a h).code (fdG P a h).qualname = true) (h8 : ∀ vals : List Value, vals.length = ps.length → bindArgs (fdG P a h) ⟨vals, []⟩ = pure (ps.zip vals)) (h9 : (fdG P a h).scope.isCoroutine = false) (h10 : (fdG P a h).scope.isGenerator = false) (h11 : (fdG P a h).scope.kind = .function)
    (hp : ∀ i x, ps[i]? = some x → Storable Z i x) (nd : Z.tbl.Nodup) (ndp : ps.Nodup) : DefAt (KK P) a Z ps (bodyOf P a) := by
  have he : fdOf P a = some (fdG P a h) := by unfold fdG; simp
  have : ∃ o, (KK P).lookup a = some o ∧ o.data = .func (fdG P a h) := by
    have he' := he
    unfold fdOf at he'
    split at he'
    · rename_i o ho
      split at he'
      · rename_i fd hfd
        cases he'
        exact ⟨o, ho, hfd⟩
      · cases he'
    · cases he'
  refine bC fun z_ => ?_
  (obtain ⟨o, ho, hd⟩ := this) <;> refine z_ ?_ <;> clear z_
  exact ⟨⟨o, _, ho, hd, h1, h2, h3, h4, h5, h6, h7, h8, h9, h10, h11⟩, hp, nd, ndp⟩
theorem stor1 {Z : Zz} {a : Str} (h : Storable Z 0 a) : ∀ i x, [a][i]? = some x → Storable Z i x
  | 0, x, e => by cases e; exact h
  | i + 1, x, e => by simp at e
theorem stor2 {Z : Zz} {a b : Str} (h : Storable Z 0 a) (h2 : Storable Z 1 b) : ∀ i x, [a, b][i]? = some x → Storable Z i x
  | 0, x, e => by cases e; exact h
  | 1, x, e => by cases e; exact h2
  | i + 2, x, e => by simp at e
theorem stor3 {Z : Zz} {a b c : Str} (h : Storable Z 0 a) (h2 : Storable Z 1 b) (h3 : Storable Z 2 c) : ∀ i x, [a, b, c][i]? = some x → Storable Z i x
  | 0, x, e => by cases e; exact h
  | 1, x, e => by cases e; exact h2
  | 2, x, e => by cases e; exact h3
  | i + 3, x, e => by simp at e
theorem bind1 {fd : FuncData} {ps : List Str} (hl : ps.length = 1) (h : ∀ v, bindArgs fd ⟨[v], []⟩ = pure (ps.zip [v])) : ∀ vals : List Value, vals.length = ps.length → bindArgs fd ⟨vals, []⟩ = pure (ps.zip vals) := fun vals e => by
  rw [hl] at e
  obtain ⟨v, rfl⟩ := List.length_eq_one_iff.mp e
  exact h v
theorem two_of {α : Type _} {l : List α} (h : l.length = 2) : ∃ a b, l = [a, b] := by
  obtain ⟨a, t, e1, h1⟩ := cons_of h
  obtain ⟨b, t', e2, h2⟩ := cons_of h1
  exact ⟨a, b, by rw [e1, e2, List.eq_nil_of_length_eq_zero h2]⟩
theorem bind2 {fd : FuncData} {ps : List Str} (hl : ps.length = 2) (h : ∀ v u, bindArgs fd ⟨[v, u], []⟩ = pure (ps.zip [v, u])) : ∀ vals : List Value, vals.length = ps.length → bindArgs fd ⟨vals, []⟩ = pure (ps.zip vals) := fun vals e => by
  obtain ⟨v, u, q⟩ := two_of (e.trans hl)
  rw [q]; exact h v u
theorem bind3 {fd : FuncData} {ps : List Str} (hl : ps.length = 3) (h : ∀ v u t, bindArgs fd ⟨[v, u, t], []⟩ = pure (ps.zip [v, u, t])) : ∀ vals : List Value, vals.length = ps.length → bindArgs fd ⟨vals, []⟩ = pure (ps.zip vals) := fun vals e => by
  obtain ⟨v, t1, q, h1⟩ := cons_of (e.trans hl)
  obtain ⟨u, t, q2⟩ := two_of h1
  rw [q, q2]; exact h v u t
theorem CallOk.up {U : U0} {l l' : Nat} {a : Addr} {φ : List D → Option D} (h : CallOk U l a φ) (hl : l ≤ l') : CallOk U l' a φ :=
  ⟨h.1, fun A s G ds vs d hR => h.2 A s G ds vs d (hR.le hl)⟩
theorem CallOk.less {U : U0} {l : Nat} {a : Addr} {φ ψ : List D → Option D} (h : CallOk U l a φ) (k : ∀ ds d, ψ ds = some d → φ ds = some d) : CallOk U l a ψ :=
  ⟨h.1, fun A s G ds vs d hR hB hG gt rl e => h.2 A s G ds vs d hR hB hG gt rl (k ds d e)⟩
theorem hini (P : Params) : ∃ sc p1 p2 p3 p4, InitAt (KK P) 35 sc p1 p2 p3 p4 := by
  have h : (fdOf P 35).isSome = true := by kernel_rfl
  have he : fdOf P 35 = some (fdG P 35 h) := by unfold fdG; simp
  have : ∃ o, (KK P).lookup 35 = some o ∧ o.data = .func (fdG P 35 h) := by
    have he' := he
    unfold fdOf at he'
    split at he'
    · rename_i o ho
      split at he'
      · rename_i fd hfd
        cases he'
        exact ⟨o, ho, hfd⟩
      · cases he'
    · cases he'
  refine bC fun z_ => ?_
  (obtain ⟨o, ho, hd⟩ := this) <;> refine z_ ?_ <;> clear z_
  refine ⟨(fdG P 35 h).scope, _, _, _, _, ⟨⟨o, _, ho, hd, rfl, rfl, by kernel_rfl, fun x v => by kernel_rfl, by kernel_rfl, by kernel_rfl, by kernel_rfl⟩, ?_, by kernel_rfl, by kernel_rfl⟩⟩
  have hc : (fdG P 35 h).scope.names.all (fun y => decide (y.2 ≠ .cell)) = true := by kernel_rfl
  intro y hy
  have := List.all_eq_true.mp hc y hy
  simpa using this
theorem okC {w : World} {mg mb : Str → Option Value} {l : Nat} : CallOk (UU w mg mb) (l + 1) 45 (mkInst 45) := by
  refine bC fun z_ => ?_
  (obtain ⟨sc, p1, p2, p3, p4, h⟩ := hini w.params) <;> refine z_ ?_ <;> clear z_
  exact call_cls (hcls _) h
noncomputable def C0 : Cx := ⟨fun _ _ => none⟩
theorem da_ellipsis_match (P : Params) : DefAt (KK P) 21 (zz_ellipsis_match P) ps_ellipsis_match (bodyOf P 21) :=
  def_at (by kernel_rfl) (by kernel_rfl) (by kernel_rfl) (by kernel_rfl) (by kernel_rfl) (by kernel_rfl) (by kernel_rfl) (by kernel_rfl) (bind2 rfl fun u v => by kernel_rfl) (by kernel_rfl) (by kernel_rfl) (by kernel_rfl) (stor2 ⟨by kernel_rfl, .inl (by kernel_rfl)⟩ ⟨by kernel_rfl, .inl (by kernel_rfl)⟩) (by show tb_ellipsis_match.Nodup; decide +kernel) (by decide +kernel)
noncomputable def F_ellipsis_match : List D → Option D := fun ds => if ds.length = 2 then run C0 ss_ellipsis_match ds else none
theorem ok_ellipsis_match {w : World} {mg mb : Str → Option Value} : CallOk (UU w mg mb) 2 21 F_ellipsis_match := call_def (da_ellipsis_match _) (dv_ellipsis_match (by decide) C0 )
theorem da_compare (P : Params) : DefAt (KK P) 42 (zz_compare P) ps_compare (bodyOf P 42) :=
  def_at (by kernel_rfl) (by kernel_rfl) (by kernel_rfl) (by kernel_rfl) (by kernel_rfl) (by kernel_rfl) (by kernel_rfl) (by kernel_rfl) (bind3 rfl fun u v t => by kernel_rfl) (by kernel_rfl) (by kernel_rfl) (by kernel_rfl) (stor3 ⟨by kernel_rfl, .inl (by kernel_rfl)⟩ ⟨by kernel_rfl, .inl (by kernel_rfl)⟩ ⟨by kernel_rfl, .inl (by kernel_rfl)⟩) (by show tb_compare.Nodup; decide +kernel) (by decide +kernel)
noncomputable def F_compare0 : List D → Option D := fun ds => if ds.length = 3 then run C0 ss_compare ds else none
theorem ok_compare0 {w : World} {mg mb : Str → Option Value} : CallOk (UU w mg mb) 2 42 F_compare0 := call_def (da_compare _) (dv_compare (by decide) C0 )
noncomputable def F_compare : List D → Option D | .inst 45 q :: r => F_compare0 (.inst 45 q :: r) | _ => none
theorem ok_compare {w : World} {mg mb : Str → Option Value} : CallOk (UU w mg mb) 2 42 F_compare := ok_compare0.less fun ds d e => by unfold F_compare at e; split at e; exact e; cases e
theorem F_compare_inst (d : D) (ds : List D) (q : D) (e : F_compare (d :: ds) = some q) : ∃ q, d = .inst 45 q := by
  unfold F_compare at e
  split at e
  · rename_i heq
    cases heq
    exact ⟨_, rfl⟩
  · cases e
theorem da_add_callers (P : Params) : DefAt (KK P) 63 (zz_add_callers P) ps_add_callers (bodyOf P 63) :=
  def_at (by kernel_rfl) (by kernel_rfl) (by kernel_rfl) (by kernel_rfl) (by kernel_rfl) (by kernel_rfl) (by kernel_rfl) (by kernel_rfl) (bind2 rfl fun u v => by kernel_rfl) (by kernel_rfl) (by kernel_rfl) (by kernel_rfl) (stor2 ⟨by kernel_rfl, .inl (by kernel_rfl)⟩ ⟨by kernel_rfl, .inl (by kernel_rfl)⟩) (by show tb_add_callers.Nodup; decide +kernel) (by decide +kernel)
noncomputable def F_add_callers : List D → Option D := fun ds => if ds.length = 2 then run C0 ss_add_callers ds else none
theorem ok_add_callers {w : World} {mg mb : Str → Option Value} : CallOk (UU w mg mb) 2 63 F_add_callers := call_def (da_add_callers _) (dv_add_callers (by decide) C0 )
theorem da_ISTERMINAL (P : Params) : DefAt (KK P) 73 (zz_ISTERMINAL P) ps_ISTERMINAL (bodyOf P 73) :=
  def_at (by kernel_rfl) (by kernel_rfl) (by kernel_rfl) (by kernel_rfl) (by kernel_rfl) (by kernel_rfl) (by kernel_rfl) (by kernel_rfl) (bind1 rfl fun u => by kernel_rfl) (by kernel_rfl) (by kernel_rfl) (by kernel_rfl) (stor1 ⟨by kernel_rfl, .inl (by kernel_rfl)⟩) (by show tb_ISTERMINAL.Nodup; decide +kernel) (by decide +kernel)
noncomputable def F_ISTERMINAL : List D → Option D := fun ds => if ds.length = 1 then run C0 ss_ISTERMINAL ds else none
theorem ok_ISTERMINAL {w : World} {mg mb : Str → Option Value} : CallOk (UU w mg mb) 2 73 F_ISTERMINAL := call_def (da_ISTERMINAL _) (dv_ISTERMINAL (by decide) C0 )
theorem da_ISNONTERMINAL (P : Params) : DefAt (KK P) 80 (zz_ISNONTERMINAL P) ps_ISNONTERMINAL (bodyOf P 80) :=
  def_at (by kernel_rfl) (by kernel_rfl) (by kernel_rfl) (by kernel_rfl) (by kernel_rfl) (by kernel_rfl) (by kernel_rfl) (by kernel_rfl) (bind1 rfl fun u => by kernel_rfl) (by kernel_rfl) (by kernel_rfl) (by kernel_rfl) (stor1 ⟨by kernel_rfl, .inl (by kernel_rfl)⟩) (by show tb_ISNONTERMINAL.Nodup; decide +kernel) (by decide +kernel)
noncomputable def F_ISNONTERMINAL : List D → Option D := fun ds => if ds.length = 1 then run C0 ss_ISNONTERMINAL ds else none
theorem ok_ISNONTERMINAL {w : World} {mg mb : Str → Option Value} : CallOk (UU w mg mb) 2 80 F_ISNONTERMINAL := call_def (da_ISNONTERMINAL _) (dv_ISNONTERMINAL (by decide) C0 )
theorem da_ISEOF (P : Params) : DefAt (KK P) 87 (zz_ISEOF P) ps_ISEOF (bodyOf P 87) :=
  def_at (by kernel_rfl) (by kernel_rfl) (by kernel_rfl) (by kernel_rfl) (by kernel_rfl) (by kernel_rfl) (by kernel_rfl) (by kernel_rfl) (bind1 rfl fun u => by kernel_rfl) (by kernel_rfl) (by kernel_rfl) (by kernel_rfl) (stor1 ⟨by kernel_rfl, .inl (by kernel_rfl)⟩) (by show tb_ISEOF.Nodup; decide +kernel) (by decide +kernel)
noncomputable def F_ISEOF : List D → Option D := fun ds => if ds.length = 1 then run C0 ss_ISEOF ds else none
theorem ok_ISEOF {w : World} {mg mb : Str → Option Value} : CallOk (UU w mg mb) 2 87 F_ISEOF := call_def (da_ISEOF _) (dv_ISEOF (by decide) C0 )
theorem da_law_world (P : Params) : DefAt (KK P) 94 (zz_law_world P) ps_law_world (bodyOf P 94) :=
  def_at (by kernel_rfl) (by kernel_rfl) (by kernel_rfl) (by kernel_rfl) (by kernel_rfl) (by kernel_rfl) (by kernel_rfl) (by kernel_rfl) (bind1 rfl fun u => by kernel_rfl) (by kernel_rfl) (by kernel_rfl) (by kernel_rfl) (stor1 ⟨by kernel_rfl, .inl (by kernel_rfl)⟩) (by show tb_law_world.Nodup; decide +kernel) (by decide +kernel)
noncomputable def F_law_world : List D → Option D := fun ds => if ds.length = 1 then run C0 ss_law_world ds else none
theorem ok_law_world {w : World} {mg mb : Str → Option Value} : CallOk (UU w mg mb) 2 94 F_law_world := call_def (da_law_world _) (dv_law_world (by decide) C0 )
theorem da_law_times (P : Params) : DefAt (KK P) 99 (zz_law_times P) ps_law_times (bodyOf P 99) :=
  def_at (by kernel_rfl) (by kernel_rfl) (by kernel_rfl) (by kernel_rfl) (by kernel_rfl) (by kernel_rfl) (by kernel_rfl) (by kernel_rfl) (bind3 rfl fun u v t => by kernel_rfl) (by kernel_rfl) (by kernel_rfl) (by kernel_rfl) (stor3 ⟨by kernel_rfl, .inr (by kernel_rfl)⟩ ⟨by kernel_rfl, .inr (by kernel_rfl)⟩ ⟨by kernel_rfl, .inr (by kernel_rfl)⟩) (by show tb_law_times.Nodup; decide +kernel) (by decide +kernel)
noncomputable def F_law_times : List D → Option D := fun ds => if ds.length = 3 then run C0 ss_law_times ds else none
theorem ok_law_times {w : World} {mg mb : Str → Option Value} : CallOk (UU w mg mb) 2 99 F_law_times := call_def (da_law_times _) (dv_law_times (by decide) C0 )
theorem da_law_degree (P : Params) : DefAt (KK P) 111 (zz_law_degree P) ps_law_degree (bodyOf P 111) :=
  def_at (by kernel_rfl) (by kernel_rfl) (by kernel_rfl) (by kernel_rfl) (by kernel_rfl) (by kernel_rfl) (by kernel_rfl) (by kernel_rfl) (bind1 rfl fun u => by kernel_rfl) (by kernel_rfl) (by kernel_rfl) (by kernel_rfl) (stor1 ⟨by kernel_rfl, .inr (by kernel_rfl)⟩) (by show tb_law_degree.Nodup; decide +kernel) (by decide +kernel)
noncomputable def F_law_degree : List D → Option D := fun ds => if ds.length = 1 then run C0 ss_law_degree ds else none
theorem ok_law_degree {w : World} {mg mb : Str → Option Value} : CallOk (UU w mg mb) 2 111 F_law_degree := call_def (da_law_degree _) (dv_law_degree (by decide) C0 )
theorem da_law_at (P : Params) : DefAt (KK P) 123 (zz_law_at P) ps_law_at (bodyOf P 123) :=
  def_at (by kernel_rfl) (by kernel_rfl) (by kernel_rfl) (by kernel_rfl) (by kernel_rfl) (by kernel_rfl) (by kernel_rfl) (by kernel_rfl) (bind2 rfl fun u v => by kernel_rfl) (by kernel_rfl) (by kernel_rfl) (by kernel_rfl) (stor2 ⟨by kernel_rfl, .inl (by kernel_rfl)⟩ ⟨by kernel_rfl, .inr (by kernel_rfl)⟩) (by show tb_law_at.Nodup; decide +kernel) (by decide +kernel)
noncomputable def F_law_at : List D → Option D := fun ds => if ds.length = 2 then run C0 ss_law_at ds else none
theorem ok_law_at {w : World} {mg mb : Str → Option Value} : CallOk (UU w mg mb) 2 123 F_law_at := call_def (da_law_at _) (dv_law_at (by decide) C0 )
noncomputable def C1 : Cx := ⟨fun a => if a = 21 then F_ellipsis_match else if a = 42 then F_compare else if a = 63 then F_add_callers else if a = 73 then F_ISTERMINAL else if a = 80 then F_ISNONTERMINAL else if a = 87 then F_ISEOF else if a = 94 then F_law_world else if a = 99 then F_law_times else if a = 111 then F_law_degree else if a = 123 then F_law_at else if a = 45 then mkInst 45 else fun _ => none⟩
theorem da_add_func_stats (P : Params) : DefAt (KK P) 56 (zz_add_func_stats P) ps_add_func_stats (bodyOf P 56) :=
  def_at (by kernel_rfl) (by kernel_rfl) (by kernel_rfl) (by kernel_rfl) (by kernel_rfl) (by kernel_rfl) (by kernel_rfl) (by kernel_rfl) (bind2 rfl fun u v => by kernel_rfl) (by kernel_rfl) (by kernel_rfl) (by kernel_rfl) (stor2 ⟨by kernel_rfl, .inl (by kernel_rfl)⟩ ⟨by kernel_rfl, .inl (by kernel_rfl)⟩) (by show tb_add_func_stats.Nodup; decide +kernel) (by decide +kernel)
noncomputable def F_add_func_stats : List D → Option D := fun ds => if ds.length = 2 then run C1 ss_add_func_stats ds else none
theorem ok_add_func_stats {w : World} {mg mb : Str → Option Value} : CallOk (UU w mg mb) 3 56 F_add_func_stats := call_def (da_add_func_stats _) (dv_add_func_stats (by decide) C1 (.up ok_add_callers (by decide)))
theorem da_law_signs (P : Params) : DefAt (KK P) 128 (zz_law_signs P) ps_law_signs (bodyOf P 128) :=
  def_at (by kernel_rfl) (by kernel_rfl) (by kernel_rfl) (by kernel_rfl) (by kernel_rfl) (by kernel_rfl) (by kernel_rfl) (by kernel_rfl) (bind1 rfl fun u => by kernel_rfl) (by kernel_rfl) (by kernel_rfl) (by kernel_rfl) (stor1 ⟨by kernel_rfl, .inl (by kernel_rfl)⟩) (by show tb_law_signs.Nodup; decide +kernel) (by decide +kernel)
noncomputable def F_law_signs : List D → Option D := fun ds => if ds.length = 1 then run C1 ss_law_signs ds else none
theorem ok_law_signs {w : World} {mg mb : Str → Option Value} : CallOk (UU w mg mb) 3 128 F_law_signs := call_def (da_law_signs _) (dv_law_signs (by decide) C1 (.up ok_ISEOF (by decide)) (.up ok_ISTERMINAL (by decide)))
theorem da_law_changes (P : Params) : DefAt (KK P) 133 (zz_law_changes P) ps_law_changes (bodyOf P 133) :=
  def_at (by kernel_rfl) (by kernel_rfl) (by kernel_rfl) (by kernel_rfl) (by kernel_rfl) (by kernel_rfl) (by kernel_rfl) (by kernel_rfl) (bind1 rfl fun u => by kernel_rfl) (by kernel_rfl) (by kernel_rfl) (by kernel_rfl) (stor1 ⟨by kernel_rfl, .inr (by kernel_rfl)⟩) (by show tb_law_changes.Nodup; decide +kernel) (by decide +kernel)
noncomputable def F_law_changes : List D → Option D := fun ds => if ds.length = 1 then run C1 ss_law_changes ds else none
theorem ok_law_changes {w : World} {mg mb : Str → Option Value} : CallOk (UU w mg mb) 3 133 F_law_changes := call_def (da_law_changes _) (dv_law_changes (by decide) C1 (.up ok_ellipsis_match (by decide)))
theorem da_law_fits (P : Params) : DefAt (KK P) 138 (zz_law_fits P) ps_law_fits (bodyOf P 138) :=
  def_at (by kernel_rfl) (by kernel_rfl) (by kernel_rfl) (by kernel_rfl) (by kernel_rfl) (by kernel_rfl) (by kernel_rfl) (by kernel_rfl) (bind1 rfl fun u => by kernel_rfl) (by kernel_rfl) (by kernel_rfl) (by kernel_rfl) (stor1 ⟨by kernel_rfl, .inr (by kernel_rfl)⟩) (by show tb_law_fits.Nodup; decide +kernel) (by decide +kernel)
noncomputable def F_law_fits : List D → Option D := fun ds => if ds.length = 1 then run C1 ss_law_fits ds else none
theorem ok_law_fits {w : World} {mg mb : Str → Option Value} (hT : (UU w mg mb).Signs) : CallOk (UU w mg mb) 3 138 F_law_fits := call_def (da_law_fits _) (dv_law_fits (by decide) C1 (.up ok_ellipsis_match (by decide)) hT)
noncomputable def C2 : Cx := ⟨fun a => if a = 21 then F_ellipsis_match else if a = 42 then F_compare else if a = 63 then F_add_callers else if a = 73 then F_ISTERMINAL else if a = 80 then F_ISNONTERMINAL else if a = 87 then F_ISEOF else if a = 94 then F_law_world else if a = 99 then F_law_times else if a = 111 then F_law_degree else if a = 123 then F_law_at else if a = 56 then F_add_func_stats else if a = 128 then F_law_signs else if a = 133 then F_law_changes else if a = 138 then F_law_fits else if a = 45 then mkInst 45 else fun _ => none⟩
theorem da_law_less (P : Params) : DefAt (KK P) 106 (zz_law_less P) ps_law_less (bodyOf P 106) :=
  def_at (by kernel_rfl) (by kernel_rfl) (by kernel_rfl) (by kernel_rfl) (by kernel_rfl) (by kernel_rfl) (by kernel_rfl) (by kernel_rfl) (bind2 rfl fun u v => by kernel_rfl) (by kernel_rfl) (by kernel_rfl) (by kernel_rfl) (stor2 ⟨by kernel_rfl, .inl (by kernel_rfl)⟩ ⟨by kernel_rfl, .inl (by kernel_rfl)⟩) (by show tb_law_less.Nodup; decide +kernel) (by decide +kernel)
noncomputable def F_law_less : List D → Option D := fun ds => if ds.length = 2 then run C2 ss_law_less ds else none
theorem ok_law_less {w : World} {mg mb : Str → Option Value} : CallOk (UU w mg mb) 4 106 F_law_less := call_def (da_law_less _) (dv_law_less (by decide) C2 (.up ok_add_func_stats (by decide)) (.up ok_law_times (by decide)))
theorem da_law_chain (P : Params) : DefAt (KK P) 118 (zz_law_chain P) ps_law_chain (bodyOf P 118) :=
  def_at (by kernel_rfl) (by kernel_rfl) (by kernel_rfl) (by kernel_rfl) (by kernel_rfl) (by kernel_rfl) (by kernel_rfl) (by kernel_rfl) (bind1 rfl fun u => by kernel_rfl) (by kernel_rfl) (by kernel_rfl) (by kernel_rfl) (stor1 ⟨by kernel_rfl, .inl (by kernel_rfl)⟩) (by show tb_law_chain.Nodup; decide +kernel) (by decide +kernel)
noncomputable def F_law_chain : List D → Option D := fun ds => if ds.length = 1 then run C2 ss_law_chain ds else none
theorem ok_law_chain {w : World} {mg mb : Str → Option Value} : CallOk (UU w mg mb) 4 118 F_law_chain := call_def (da_law_chain _) (dv_law_chain (by decide) C2 (.up ok_law_degree (by decide)) (.up ok_law_times (by decide)) (.up ok_add_func_stats (by decide)))
noncomputable def C3 : Cx := ⟨fun a => if a = 21 then F_ellipsis_match else if a = 42 then F_compare else if a = 63 then F_add_callers else if a = 73 then F_ISTERMINAL else if a = 80 then F_ISNONTERMINAL else if a = 87 then F_ISEOF else if a = 94 then F_law_world else if a = 99 then F_law_times else if a = 111 then F_law_degree else if a = 123 then F_law_at else if a = 56 then F_add_func_stats else if a = 128 then F_law_signs else if a = 133 then F_law_changes else if a = 138 then F_law_fits else if a = 106 then F_law_less else if a = 118 then F_law_chain else if a = 45 then mkInst 45 else fun _ => none⟩
theorem da_law (P : Params) : DefAt (KK P) 143 (zz_law P) ps_law (bodyOf P 143) :=
  def_at (by kernel_rfl) (by kernel_rfl) (by kernel_rfl) (by kernel_rfl) (by kernel_rfl) (by kernel_rfl) (by kernel_rfl) (by kernel_rfl) (bind1 rfl fun u => by kernel_rfl) (by kernel_rfl) (by kernel_rfl) (by kernel_rfl) (stor1 ⟨by kernel_rfl, .inl (by kernel_rfl)⟩) (by show tb_law.Nodup; decide +kernel) (by decide +kernel)
noncomputable def F_law : List D → Option D := fun ds => if ds.length = 1 then run C3 ss_law ds else none
theorem ok_law {w : World} {mg mb : Str → Option Value} (hT : (UU w mg mb).Signs) : CallOk (UU w mg mb) 5 143 F_law := call_def (da_law _) (dv_law (by decide) C3 (.up ok_ISNONTERMINAL (by decide)) (.up ok_ISTERMINAL (by decide)) (.up ok_ISEOF (by decide)) (.up ok_law_changes (by decide)) (.up ok_law_signs (by decide)) (.up ok_compare (by decide)) okC (.up (ok_law_fits hT) (by decide)) (.up ok_law_at (by decide)) (.up ok_law_degree (by decide)) (.up ok_law_times (by decide)) (.up ok_law_chain (by decide)) (.up ok_law_less (by decide)) (.up ok_add_func_stats (by decide)) (.up ok_law_world (by decide)) hT (fun _ _ d _ ds q e => F_compare_inst d ds q e))
end Mine
end

/- part PA -/
section
open PySem PySem.W
set_option maxRecDepth 100000
namespace Mine
/- sizes -/
noncomputable def bd (n : Nat) (x : Int) : Prop := x.natAbs < 2 ^ n
theorem bd.mono {n m : Nat} {x : Int} (h : bd n x) (k : n ≤ m) : bd m x := Nat.lt_of_lt_of_le h (Nat.pow_le_pow_right (by decide) k)
theorem bd.mul {n m : Nat} {x y : Int} (h : bd n x) (k : bd m y) : bd (n + m) (x * y) := by
  unfold bd at *
  rw [Int.natAbs_mul, Nat.pow_add]
  exact Nat.mul_lt_mul'' h k
theorem bd.neg {n : Nat} {x : Int} (h : bd n x) : bd n (-x) := by unfold bd at *; rwa [Int.natAbs_neg]
theorem bd.add {n : Nat} {x y : Int} (h : bd n x) (k : bd n y) : bd (n + 1) (x + y) := by
  unfold bd at *
  have := Int.natAbs_add_le x y
  rw [Nat.pow_succ]; omega
theorem bd.lit {n : Nat} {x : Int} (h : x.natAbs < 2 ^ n := by decide) : bd n x := h
theorem ok_of {n m : Nat} {x y : Int} (h : bd n x) (k : bd m y) (hn : n ≤ 4000 := by omega) (hm : m ≤ 4000 := by omega) : mulOk x y = true := by
  unfold mulOk
  simp only [Bool.and_eq_true, decide_eq_true_eq]
  exact ⟨h.mono hn, k.mono hm⟩
/- steps of the data -/
theorem b_add (a b : Int) : binD .add (.int a) (.int b) = some (.int (a + b)) := rfl
theorem b_sub (a b : Int) : binD .sub (.int a) (.int b) = some (.int (a - b)) := rfl
theorem b_mul {a b : Int} (h : mulOk a b = true) : binD .mul (.int a) (.int b) = some (.int (a * b)) := if_pos h
theorem c_lt (a b : Int) : cmpD .lt (.int a) (.int b) = some (decide (a < b)) := rfl
theorem c_le (a b : Int) : cmpD .le (.int a) (.int b) = some (decide (a ≤ b)) := rfl
theorem c_gt (a b : Int) : cmpD .gt (.int a) (.int b) = some (decide (a > b)) := rfl
theorem c_ge (a b : Int) : cmpD .ge (.int a) (.int b) = some (decide (a ≥ b)) := rfl
theorem c_eq (a b : Int) : cmpD .eq (.int a) (.int b) = some (decide (a = b)) := rfl
theorem c_ne (a b : Int) : cmpD .ne (.int a) (.int b) = some (!decide (a = b)) := rfl
/- a dict's values as the law dresses them -/
noncomputable def val (b : Bool) (c : Int) : D := if b then .tup [.int c, .int (-c)] else .int c
noncomputable def tbD (b : Bool) (m : List (Int × Int)) : D := .dict (m.map fun p => (p.1, val b p.2))
noncomputable def ent (b : Bool) (m : List (Int × Int)) (c0 c1 c2 c3 : Int) : D := .tup [.int c0, .int c1, .int c2, .int c3, tbD b m]
theorem bs {α β : Type} {x : Option α} {f : α → Option β} {a : α} {y : Option β} (h : x = some a) (k : f a = y) : (x >>= f) = y := by subst h; exact k
/-! slots -/
theorem set_ne {r : Rho} {i j : Nat} {d : D} (h : j ≠ i) : (r.set i d) j = r j := if_neg h
theorem own_ne {r : Rho} {i j : Nat} {d : D} (h : j ≠ i) : (r.own i d) j = r j := if_neg h
theorem set_eq {r : Rho} {i : Nat} {d : D} : (r.set i d) i = some (false, d) := if_pos rfl
theorem own_eq {r : Rho} {i : Nat} {d : D} : (r.own i d) i = some (true, d) := if_pos rfl
theorem set_k {r : Rho} {i j : Nat} {d : D} {q : Option (Bool × D)} (k : r j = q) (h : j ≠ i := by decide) : (r.set i d) j = q := (if_neg h).trans k
theorem own_k {r : Rho} {i j : Nat} {d : D} {q : Option (Bool × D)} (k : r j = q) (h : j ≠ i := by decide) : (r.own i d) j = q := (if_neg h).trans k
theorem frz {r : Rho} {i : Nat} {b : Bool} {d : D} (h : r i = some (b, d)) : r.freeze i = some (false, d) := by unfold Rho.freeze; rw [h]; rfl
theorem rget {r : Rho} {i : Nat} {d : D} (h : r i = some (false, d)) : r.get i = some d := bs h (if_pos rfl)
theorem own_of {r : Rho} {i : Nat} {d : D} (h : r i = some (true, d)) : r.owned i = some d := bs h (if_pos rfl)
theorem rget_own {r : Rho} {i : Nat} {d : D} (h : r i = some (true, d)) : r.get i = none := by unfold Rho.get; rw [h]; rfl
theorem blk {r : Rho} {caps : List Nat} {i : Nat} {d : D} (h : r i = some (false, d)) (k : caps.contains i = true := by decide) : r.block caps i = some (false, d) := (if_pos k).trans (by rw [rget h]; rfl)
section
variable {C : Cx} {r : Rho}
/-! expressions -/
theorem e_var {i : Nat} {d : D} (h : r i = some (false, d)) : ev C r (.var i) = some d := rget h
theorem o_var {i : Nat} {b : Bool} {d : D} (h : r i = some (b, d)) : evO C r (.var i) = some d := by
  show (r i).map (·.2) = _
  rw [h]; rfl
theorem e_int {i : Int} : ev C r (.lit (.int i)) = some (.int i) := rfl
theorem e_bin {op : BO} {a b : X} {x y d : D} (ha : ev C r a = some x) (hb : ev C r b = some y) (h : binD op x y = some d) : ev C r (.bin op a b) = some d := bs ha (bs hb h)
theorem e_sub {o : O} {x : X} {d e q : D} (h : evO C r o = some d) (h2 : ev C r x = some e) (h3 : subD d e = some q) : ev C r (.sub o x) = some q := bs h (bs h2 h3)
theorem e_neg {x : X} {i : Int} (h : ev C r x = some (.int i)) : ev C r (.neg x) = some (.int (-i)) := bs h rfl
theorem e_mul {a b : X} {x y : Int} {n k : Nat} (ha : ev C r a = some (.int x)) (hb : ev C r b = some (.int y)) (hx : bd n x) (hy : bd k y) (hn : n ≤ 4000 := by omega) (hk : k ≤ 4000 := by omega) : ev C r (.bin .mul a b) = some (.int (x * y)) :=
  e_bin ha hb (b_mul (ok_of hx hy hn hk))
theorem e_add {a b : X} {x y : Int} (ha : ev C r a = some (.int x)) (hb : ev C r b = some (.int y)) : ev C r (.bin .add a b) = some (.int (x + y)) := e_bin ha hb (b_add _ _)
theorem e_sbt {a b : X} {x y : Int} (ha : ev C r a = some (.int x)) (hb : ev C r b = some (.int y)) : ev C r (.bin .sub a b) = some (.int (x - y)) := e_bin ha hb (b_sub _ _)
theorem e_ite {c : B} {t e : X} {b : Bool} (h : evB C r c = some b) : ev C r (.ite c t e) = if b then ev C r t else ev C r e := bs h rfl
theorem p_of {x : X} {z : Bool} (h : ev C r x = some (.bool z)) : evB C r (.plain x) = some z := bs h rfl
theorem e_cmp {op : CO} {a b : X} {x y : D} {z : Bool} (ha : ev C r a = some x) (hb : ev C r b = some y) (h : cmpD op x y = some z) : ev C r (.cmp op a b) = some (.bool z) := bs ha (bs hb (bs h rfl))
theorem p_cmp {op : CO} {a b : X} {x y : D} {z : Bool} (ha : ev C r a = some x) (hb : ev C r b = some y) (h : cmpD op x y = some z) : evB C r (.plain (.cmp op a b)) = some z := p_of (e_cmp ha hb h)
theorem e_cmp2 {op op' : CO} {a b c : X} {x y z : Int} {p q : Bool} (ha : ev C r a = some (.int x)) (hb : ev C r b = some (.int y)) (hc : ev C r c = some (.int z)) (h : cmpD op (.int x) (.int y) = some p) (k : cmpD op' (.int y) (.int z) = some q) :
    evB C r (.plain (.cmp2 op op' a b c)) = some (p && q) := by
  refine p_of (bs ha (bs hb (bs h ?_)))
  cases p
  · rfl
  · exact bs hc (bs k rfl)
theorem dec_and {p q : Prop} [Decidable p] [Decidable q] : (decide p && decide q) = decide (p ∧ q) := (Bool.decide_and p q).symm
theorem e_le_lt {a b c : X} {x y z : Int} (ha : ev C r a = some (.int x)) (hb : ev C r b = some (.int y)) (hc : ev C r c = some (.int z)) : evB C r (.plain (.cmp2 .le .lt a b c)) = some (decide (x ≤ y ∧ y < z)) :=
  (e_cmp2 ha hb hc (c_le _ _) (c_lt _ _)).trans (congrArg some dec_and)
theorem e_ge_gt {a b c : X} {x y z : Int} (ha : ev C r a = some (.int x)) (hb : ev C r b = some (.int y)) (hc : ev C r c = some (.int z)) : evB C r (.plain (.cmp2 .ge .gt a b c)) = some (decide (x ≥ y ∧ y > z)) :=
  (e_cmp2 ha hb hc (c_ge _ _) (c_gt _ _)).trans (congrArg some dec_and)
theorem b_or {x y : B} {a b : Bool} (h : evB C r x = some a) (k : evB C r y = some b) : evB C r (.bor x y) = some (a || b) := bs h (by cases a <;> first | exact k | rfl)
theorem b_and {x y : B} {a b : Bool} (h : evB C r x = some a) (k : evB C r y = some b) : evB C r (.band x y) = some (a && b) := bs h (by cases a <;> first | exact k | rfl)
theorem b_not {x : B} {a : Bool} (h : evB C r x = some a) : evB C r (.not x) = some (!a) := bs h rfl
theorem x_and {a b : X} {x y : Bool} (h : ev C r a = some (.bool x)) (k : ev C r b = some (.bool y)) : ev C r (.band a b) = some (.bool (x && y)) := bs h (by cases x <;> first | exact k | rfl)
theorem x_or {a b : X} {x y : Bool} (h : ev C r a = some (.bool x)) (k : ev C r b = some (.bool y)) : ev C r (.bor a b) = some (.bool (x || y)) := bs h (by cases x <;> first | exact k | rfl)
theorem ite_int {c : B} {t e : X} {z : Bool} {x y : Int} (hc : evB C r c = some z) (ht : ev C r t = some (.int x)) (he : ev C r e = some (.int y)) : ev C r (.ite c t e) = some (.int (if z = true then x else y)) := (e_ite hc).trans (by cases z <;> assumption)
theorem p_ne {a b : X} {x y : D} (ha : ev C r a = some x) (hb : ev C r b = some y) (h : D.eqq 8 x y = some true) : evB C r (.plain (.cmp .ne a b)) = some false := p_cmp ha hb ((congrArg (Option.map (!·)) h).trans rfl)
theorem p_nei {a b : X} {x y : Int} (ha : ev C r a = some (.int x)) (hb : ev C r b = some (.int y)) : evB C r (.plain (.cmp .ne a b)) = some (!decide (x = y)) := p_cmp ha hb rfl
theorem e_nil : evL C r [] = some [] := rfl
theorem e_cons {x : X} {xs : List X} {d : D} {ds : List D} (h : ev C r x = some d) (h2 : evL C r xs = some ds) : evL C r (x :: xs) = some (d :: ds) := bs h (bs h2 rfl)
theorem e_call {f : Addr} {xs : List X} {ds : List D} {d : D} (h : evL C r xs = some ds) (h2 : C.Φ f ds = some d) : ev C r (.call f xs) = some d := bs h h2
theorem e_tup {xs : List X} {ds : List D} (h : evL C r xs = some ds) (hl : ds.length ≤ big) : ev C r (.tup xs) = some (.tup ds) := bs h (if_pos hl)
theorem hb100 {n : Nat} (h : n ≤ 1000) : n ≤ big := Nat.le_trans h (by decide)
theorem e_list {xs : List X} {ds : List D} (h : evL C r xs = some ds) (hl : ds.length ≤ 100) : ev C r (.list xs) = some (.list ds) := bs h (if_pos (hb100 (Nat.le_trans hl (by decide))))
theorem e_tupleOf {x : X} {l : List D} (h : ev C r x = some (.list l)) (hl : l.length ≤ big) : ev C r (.tupleOf x) = some (.tup l) := bs h (if_pos hl)
theorem e_meth {n : Str} {o : X} {xs : List X} {d q : D} {ds : List D} (h : ev C r o = some d) (h2 : evL C r xs = some ds) (h3 : methD n d ds = some q) : ev C r (.meth n o xs) = some q := bs h (bs h2 h3)
theorem i_list {x : X} {l : List D} (h : ev C r x = some (.list l)) : evI C r (.plain x) = some l := bs h rfl
theorem i_tup {x : X} {l : List D} (h : ev C r x = some (.tup l)) : evI C r (.plain x) = some l := bs h rfl
theorem i_items {x : X} {b : Bool} {t : List (Int × Int)} (h : ev C r x = some (tbD b t)) : evI C r (.items x) = some (t.map fun p => .tup [.int p.1, val b p.2]) :=
  bs h (congrArg some (List.map_map ..))
noncomputable def compF (C : Cx) (r : Rho) (ts : List Nat) (c : Option B) (elt : X) (d : D) : Option (Option D) := do
  let r' ← r.put ts d
  let go ← evT C r' c
  if go then do let y ← ev C r' elt; some (some y) else some .none
theorem ev_comp {ts caps : List Nat} {it : I} {c : Option B} {elt : X} {l q : List D} (h1 : evI C r it = some l) (hl : l.length ≤ big) (h2 : filtM (compF C (r.block caps) ts c elt) l = some q) (hq : q.length ≤ big) :
    ev C r (.comp ts caps it c elt) = some (.list q) := bs h1 (bs (a := D.none) (if_pos hl) (bs (a := q) h2 (if_pos hq)))
theorem comp_put {ts : List Nat} {elt : X} {d q : D} {r' : Rho} (h : r.put ts d = some r') (k : ev C r' elt = some q) : compF C r ts .none elt d = some (some q) := bs h (bs (a := true) rfl (bs k rfl))
theorem comp_one {i : Nat} {elt : X} {d q : D} (h : ev C (r.set i d) elt = some q) : compF C r [i] .none elt d = some (some q) := comp_put rfl h
theorem comp_if {i : Nat} {c : B} {elt : X} {d : D} {z : Bool} {q : D} (h : evB C (r.set i d) c = some z) (k : z = true → ev C (r.set i d) elt = some q) : compF C r [i] (some c) elt d = some (if z = true then some q else none) :=
  bs (a := r.set i d) rfl (bs h (by cases z with | false => rfl | true => exact bs (k rfl) rfl))
theorem fm_cons {f : D → Option (Option D)} {d x : D} {l ys : List D} (h : f d = some (some x)) (k : filtM f l = some ys) : filtM f (d :: l) = some (x :: ys) := bs h (bs k rfl)
theorem fm_skip {f : D → Option (Option D)} {d : D} {l ys : List D} (h : f d = some none) (k : filtM f l = some ys) : filtM f (d :: l) = some ys := bs h (bs k rfl)
theorem filtM_mapc {α : Type} {f : D → Option (Option D)} {g h : α → D} : ∀ {xs : List α}, (∀ x ∈ xs, f (g x) = some (some (h x))) → filtM f (xs.map g) = some (xs.map h)
  | [], _ => rfl
  | a :: _, k => fm_cons (k a (.head _)) (filtM_mapc fun x hx => k x (.tail _ hx))
theorem ev_mapc {α : Type} {ts caps : List Nat} {it : I} {elt : X} {xs : List α} {g h : α → D} (h1 : evI C r it = some (xs.map g)) (hl : xs.length ≤ 1000) (k : ∀ x ∈ xs, compF C (r.block caps) ts .none elt (g x) = some (some (h x))) :
    ev C r (.comp ts caps it .none elt) = some (.list (xs.map h)) :=
  ev_comp h1 (hb100 (by rw [List.length_map]; exact hl)) (filtM_mapc k) (hb100 (by rw [List.length_map]; exact hl))
theorem bn {α β : Type} {x : Option α} {f : α → Option β} (h : x = none) : (x >>= f) = none := by subst h; rfl
theorem e_slice {x : X} {lo hi : Option X} {d q : D} {y z : Option D} (h : ev C r x = some d) (h1 : evP C r lo = some y) (h2 : evP C r hi = some z) (h3 : sliceD d y z = some q) : ev C r (.slice x lo hi) = some q := bs h (bs h1 (bs h2 h3))
theorem p_some {x : X} {d : D} (h : ev C r x = some d) : evP C r (some x) = some (some d) := congrArg (Option.map some) h
theorem eqqL_cons {f : D → D → Option Bool} {a b : D} {l m : List D} (h : f a b = some true) (k : eqqL f l m = some true) : eqqL f (a :: l) (b :: m) = some true := bs h (bs k rfl)
theorem eqq_int {n : Nat} {a : Int} : D.eqq n (.int a) (.int a) = some true := by cases n <;> exact congrArg some (decide_eq_true rfl)
/-! statements -/
theorem evF_of {x : X} {d : D} (h : ev C r x = some d) : evF C r x = some (d, r) := by unfold evF; rw [h]
theorem evIF_of {x : I} {l : List D} (h : evI C r x = some l) : evIF C r x = some (l, r) := by unfold evIF; rw [h]
theorem evF_frz {x : X} {d : D} (h : ev C r x = none) (k : ev C r.freeze x = some d) : evF C r x = some (d, r.freeze) := by unfold evF; rw [h, k]; rfl
theorem evIF_frz {x : I} {l : List D} (h : evI C r x = none) (k : evI C r.freeze x = some l) : evIF C r x = some (l, r.freeze) := by unfold evIF; rw [h, k]; rfl
theorem ex_put {ts : List Nat} {x : X} {d : D} {r' : Rho} (h : ev C r x = some d) (h2 : r.put ts d = some r') : exec C r (.assign ts x) = some (.next, r') := bs (evF_of h) (bs h2 rfl)
theorem ex_assign {i : Nat} {x : X} {d : D} (h : ev C r x = some d) : exec C r (.assign [i] x) = some (.next, r.set i d) := ex_put h rfl
theorem ex_own {i : Nat} {x : X} {d : D} (h : ev C r x = some d) : exec C r (.own i x) = some (.next, r.own i d) := bs h rfl
theorem ex_for {ts : List Nat} {it : I} {body : List S} {l : List D} {q : Fl × Rho} (h : evI C r it = some l) (hf : forM (fun d r => do let r' ← r.put ts d; execs C r' body) l r = some q) : exec C r (.fors ts it body) = some q := bs (evIF_of h) hf
theorem ex_forF {ts : List Nat} {it : I} {body : List S} {l : List D} {q : Fl × Rho} (h : evI C r it = none) (k : evI C r.freeze it = some l) (hf : forM (fun d r => do let r' ← r.put ts d; execs C r' body) l r.freeze = some q) : exec C r (.fors ts it body) = some q := bs (evIF_frz h k) hf
theorem fo_cons {f : D → Rho → Option (Fl × Rho)} {d : D} {l : List D} {r' : Rho} {q : Option (Fl × Rho)} (h : f d r = some (.next, r')) (k : forM f l r' = q) : forM f (d :: l) r = q := bs h k
theorem fo_ret {f : D → Rho → Option (Fl × Rho)} {d x : D} {l : List D} {r' : Rho} (h : f d r = some (.ret x, r')) : forM f (d :: l) r = some (.ret x, r') := bs h rfl
theorem exec_ifs {c : B} {x y : List S} {b : Bool} (h : evB C r c = some b) : exec C r (.ifs c x y) = if b then execs C r x else execs C r y := bs h rfl
theorem ex_true {c : B} {x y : List S} {q : Option (Fl × Rho)} (h : evB C r c = some true) (k : execs C r x = q) : exec C r (.ifs c x y) = q := bs h k
theorem ex_else {c : B} {x y : List S} {q : Option (Fl × Rho)} (h : evB C r c = some false) (k : execs C r y = q) : exec C r (.ifs c x y) = q := bs h k
theorem ex_false {c : B} {x : List S} (h : evB C r c = some false) : exec C r (.ifs c x []) = some (.next, r) := bs h rfl
theorem execs_one {s : S} {q : Fl} {r' : Rho} (h : exec C r s = some (q, r')) : execs C r [s] = some (q, r') := bs h (by cases q <;> rfl)
theorem execs_next {r' : Rho} {s : S} {ss : List S} (h : exec C r s = some (.next, r')) : execs C r (s :: ss) = execs C r' ss := bs h rfl
theorem execs_out {r' : Rho} {s : S} {ss : List S} {d : D} (h : exec C r s = some (.ret d, r')) : execs C r (s :: ss) = some (.ret d, r') := bs h rfl
theorem x_ret {x : X} {d : D} {ss : List S} (h : ev C r.freeze x = some d) : execs C r (.ret x :: ss) = some (.ret d, r.freeze) := execs_out (bs h rfl)
theorem ex_setItem {i : Nat} {ix x : X} {d : D} {k : Int} {l : List (Int × D)} (h : ev C r x = some d) (h2 : ev C r ix = some (.int k)) (h3 : r i = some (true, .dict l)) (hl : l.length ≤ big) : exec C r (.setItem i ix x) = some (.next, r.own i (.dict (setM l k d))) :=
  bs h (bs h2 (bs (own_of h3) (bs (rfl : (D.dict l).asM = some l) (bs (rfl : (D.int k).asI = some k) (if_pos hl)))))
theorem ex_append {i : Nat} {x : X} {d : D} {l : List D} (h : ev C r x = some d) (h2 : r i = some (true, .list l)) (hl : l.length ≤ 1000) : exec C r (.append i x) = some (.next, r.own i (.list (l ++ [d]))) :=
  bs h (bs (own_of h2) (bs (rfl : (D.list l).asL = some l) (if_pos (hb100 hl))))
end
theorem run_of {C : Cx} {body : List S} {ds : List D} {d : D} {r : Rho} (h : execs C (Rho.args ds) body = some (.ret d, r)) : run C body ds = some d := by
  exact bs h rfl
theorem F_ISEOF_eq (x : Int) : F_ISEOF [.int x] = some (.bool (decide (x = 0))) := rfl
theorem F_IST_eq (x : Int) : F_ISTERMINAL [.int x] = some (.bool (decide (x < 256))) := rfl
theorem F_ISN_eq (x : Int) : F_ISNONTERMINAL [.int x] = some (.bool (decide (x ≥ 256))) := rfl
theorem m_join {sep : Str} {l : List D} : methD (Str.ofString "join") (.str sep) [.list l] = joinD sep l := by
  show (if Str.ofString "join" = Str.ofString "split" then splitM sep [.list l] else if Str.ofString "join" = Str.ofString "startswith" then startM sep [.list l] else if Str.ofString "join" = Str.ofString "endswith" then endM sep [.list l] else if Str.ofString "join" = Str.ofString "count" then countM sep [.list l]
    else if Str.ofString "join" = Str.ofString "find" then findM sep [.list l] else if Str.ofString "join" = Str.ofString "join" then joinM sep [.list l] else .none) = _
  rw [if_neg (by decide +kernel), if_neg (by decide +kernel), if_neg (by decide +kernel), if_neg (by decide +kernel), if_neg (by decide +kernel), if_pos rfl]; rfl
section
variable {b : Bool} {f up k c : Int} {n m : Nat} {C : Cx} {r : Rho} {done : List (Int × Int)}
theorem setM_new {k : Int} {d : D} : ∀ {l : List (Int × D)}, k ∉ l.map (·.1) → setM l k d = l ++ [(k, d)]
  | [], _ => rfl
  | p :: q, h => (if_neg fun e => h (by rw [← e]; exact .head _)).trans (congrArg (p :: ·) (setM_new fun e => h (.tail _ e)))
/- the table's value, times a number -/
theorem by_val {r : Rho} {v : Int} (h5 : r 5 = some (false, val b c)) (h6 : r 6 = some (false, .int v)) (hv : bd m v) (hc : bd n c) (hn : n ≤ 3900) (hm : m ≤ 3900) :
    ev C r (.ite (.plain (.isinst (.var 5) .tuple)) (.tupleOf (.comp [7] [6] (.plain (.var 5)) .none (.bin .mul (.var 6) (.var 7)))) (.bin .mul (.var 6) (.var 5))) = some (val b (v * c)) := by
  cases b with
  | false => exact (e_ite (b := false) (p_of (bs (e_var h5) rfl))).trans (e_bin (e_var h6) (e_var h5) (b_mul (ok_of hv hc)))
  | true =>
    have h : ev C r (.comp [7] [6] (.plain (.var 5)) .none (.bin .mul (.var 6) (.var 7))) = some (.list [.int (v * c), .int (v * -c)]) :=
      ev_comp (i_tup (e_var h5)) (hb100 (show 2 ≤ 1000 by decide)) (fm_cons (comp_one (e_bin (e_var (set_k (blk h6))) (e_var set_eq) (b_mul (ok_of hv hc)))) (fm_cons (comp_one (e_bin (e_var (set_k (blk h6))) (e_var set_eq) (b_mul (ok_of hv hc.neg)))) rfl)) (hb100 (show 2 ≤ 1000 by decide))
    refine (e_ite (b := true) (p_of (bs (e_var h5) rfl))).trans ((e_tupleOf h (hb100 (show 2 ≤ 1000 by decide))).trans ?_)
    rw [Int.mul_neg]; rfl
/- what a turn of the table's loop needs to know -/
structure TI (b : Bool) (e : D) (f up : Int) (done : List (Int × Int)) (r : Rho) : Prop where
  h0 : r 0 = some (false, e)
  h1 : r 1 = some (false, .int f)
  h2 : r 2 = some (false, .int up)
  h3 : r 3 = some (true, tbD b done)
noncomputable abbrev fac (f up k : Int) : Int := f * (if up < 0 then k else 1)
theorem times_turn {e : D} (T : TI b e f up done r) (hf : bd m f) (hc : bd n c) (hk : 0 ≤ k ∧ k ≤ 3) (hn : n ≤ 3000) (hm : m ≤ 3000) (nk : k + up ∉ done.map (·.1)) (hd : done.length ≤ 10) :
    ∃ r', ((r.put [4, 5] (.tup [.int k, val b c])).bind fun r1 => execs C r1 [.assign [6] (.bin .mul (.var 1) (.ite (.plain (.cmp .lt (.var 2) (.lit (.int 0)))) (.var 4) (.lit (.int 1)))), .ifs (.plain (.cmp2 .le .lt (.lit (.int 0)) (.bin .add (.var 4) (.var 2)) (.lit (.int 4)))) [.setItem 3 (.bin .add (.var 4) (.var 2)) (.ite (.plain (.isinst (.var 5) .tuple)) (.tupleOf (.comp [7] [6] (.plain (.var 5)) .none (.bin .mul (.var 6) (.var 7)))) (.bin .mul (.var 6) (.var 5)))] []]) = some (.next, r') ∧
      TI b e f up (if 0 ≤ k + up ∧ k + up < 4 then done ++ [(k + up, fac f up k * c)] else done) r' := by
  refine bC fun z_ => ?_
  have q2 : bd 2 (if decide (up < 0) = true then k else 1) := by
    split
    · unfold bd; omega
    · exact bd.lit
  have hfac : (if decide (up < 0) = true then k else 1) = (if up < 0 then k else 1) := by simp only [decide_eq_true_eq]
  have e6 := fun (r : Rho) (h1 : r 1 = some (false, .int f)) (h2 : r 2 = some (false, .int up)) (h4 : r 4 = some (false, .int k)) => e_mul (C := C) (e_var h1) (ite_int (p_cmp (op := .lt) (e_var h2) (e_int (i := 0)) (c_lt _ _)) (e_var h4) (e_int (i := 1))) hf q2
  rw [hfac] at e6 q2
  have hv : bd (m + 2) (fac f up k) := hf.mul q2
  have i1 : ((r.set 4 (.int k)).set 5 (val b c)) 1 = some (false, .int f) := set_k (set_k T.h1)
  have i2 : ((r.set 4 (.int k)).set 5 (val b c)) 2 = some (false, .int up) := set_k (set_k T.h2)
  have i4 : ((r.set 4 (.int k)).set 5 (val b c)) 4 = some (false, .int k) := set_k set_eq
  have T2 : TI b e f up done (((r.set 4 (.int k)).set 5 (val b c)).set 6 (.int (fac f up k))) := ⟨set_k (set_k (set_k T.h0)), set_k i1, set_k i2, set_k (set_k (set_k T.h3))⟩
  have j4 : (((r.set 4 (.int k)).set 5 (val b c)).set 6 (.int (fac f up k))) 4 = some (false, .int k) := set_k i4
  have j5 : (((r.set 4 (.int k)).set 5 (val b c)).set 6 (.int (fac f up k))) 5 = some (false, val b c) := set_k set_eq
  have j6 : (((r.set 4 (.int k)).set 5 (val b c)).set 6 (.int (fac f up k))) 6 = some (false, .int (fac f up k)) := set_eq
  have st := execs_next (ss := [.ifs (.plain (.cmp2 .le .lt (.lit (.int 0)) (.bin .add (.var 4) (.var 2)) (.lit (.int 4)))) [.setItem 3 (.bin .add (.var 4) (.var 2)) (.ite (.plain (.isinst (.var 5) .tuple)) (.tupleOf (.comp [7] [6] (.plain (.var 5)) .none (.bin .mul (.var 6) (.var 7)))) (.bin .mul (.var 6) (.var 5)))] []]) (ex_assign (i := 6) (e6 _ i1 i2 i4))
  have ek := e_add (C := C) (e_var j4) (e_var T2.h2)
  have et := e_le_lt (C := C) (e_int (i := 0)) ek (e_int (i := 4))
  by_cases hin : 0 ≤ k + up ∧ k + up < 4
  · rw [decide_eq_true hin] at et
    have hx := ex_setItem (by_val (C := C) j5 j6 hv hc (by omega) (by omega)) ek T2.h3 (by rw [List.length_map]; exact hb100 (by omega))
    have nk' : k + up ∉ (done.map fun p => (p.1, val b p.2)).map (·.1) := by rw [List.map_map]; exact nk
    rw [setM_new nk'] at hx
    refine z_ ⟨_, st.trans (execs_one (ex_true et (execs_one hx))), ?_⟩
    rw [if_pos hin]
    refine ⟨own_k T2.h0, own_k T2.h1, own_k T2.h2, own_eq.trans ?_⟩
    unfold tbD; rw [List.map_append]; rfl
  · rw [decide_eq_false hin] at et
    refine z_ ⟨_, st.trans (execs_one (ex_false et)), ?_⟩
    rw [if_neg hin]; exact T2
end
end Mine
end

/- part PB -/
section
open PySem PySem.W
set_option maxRecDepth 100000
namespace Mine
noncomputable def shift (m : List (Int × Int)) (f up : Int) : List (Int × Int) := m.filterMap fun p => if 0 ≤ p.1 + up ∧ p.1 + up < 4 then some (p.1 + up, fac f up p.1 * p.2) else none
noncomputable def cf (c0 c1 c2 c3 : Int) (i : Int) : Int := if i = 0 then c0 else if i = 1 then c1 else if i = 2 then c2 else c3
noncomputable def co (c0 c1 c2 c3 f up n : Int) : Int := if 0 ≤ n - up ∧ n - up < 4 then f * (if up < 0 then n - up else 1) * cf c0 c1 c2 c3 (n - up) else 0
noncomputable abbrev timesBody : List S := [.assign [6] (.bin .mul (.var 1) (.ite (.plain (.cmp .lt (.var 2) (.lit (.int 0)))) (.var 4) (.lit (.int 1)))), .ifs (.plain (.cmp2 .le .lt (.lit (.int 0)) (.bin .add (.var 4) (.var 2)) (.lit (.int 4)))) [.setItem 3 (.bin .add (.var 4) (.var 2)) (.ite (.plain (.isinst (.var 5) .tuple)) (.tupleOf (.comp [7] [6] (.plain (.var 5)) .none (.bin .mul (.var 6) (.var 7)))) (.bin .mul (.var 6) (.var 5)))] []]
section
variable {b : Bool} {f up : Int} {n m : Nat} {C : Cx}
theorem times_loop {e : D} (hf : bd m f) (hn : n ≤ 3000) (hm : m ≤ 3000) : ∀ (l : List (Int × Int)) (done : List (Int × Int)) (r : Rho), TI b e f up done r → (∀ p ∈ l, 0 ≤ p.1 ∧ p.1 ≤ 3 ∧ bd n p.2) → (done.map (·.1) ++ l.map (·.1 + up)).Nodup → done.length + l.length ≤ 10 →
    ∃ r', forM (fun d r => do let r' ← r.put [4, 5] d; execs C r' timesBody) (l.map fun p => .tup [.int p.1, val b p.2]) r = some (.next, r') ∧ TI b e f up (done ++ shift l f up) r'
  | [], done, r, T, _, _, _ => ⟨r, rfl, by simpa [shift] using T⟩
  | p :: l, done, r, T, hl, nd, hd => by
    obtain ⟨k, c⟩ := p
    refine bC fun z_ => ?_
    (obtain ⟨h1, h2, h3⟩ := hl (k, c) (.head _)) <;> refine z_ ?_ <;> clear z_
    have nk : k + up ∉ done.map (·.1) := fun q => by
      rw [List.nodup_append] at nd
      exact nd.2.2 _ q _ (by simp) rfl
    obtain ⟨r1, e1, T1⟩ := times_turn (C := C) T hf h3 ⟨h1, h2⟩ hn hm nk (by simp only [List.length_cons] at hd; omega)
    have nd' : ((if 0 ≤ k + up ∧ k + up < 4 then done ++ [(k + up, fac f up k * c)] else done).map (·.1) ++ l.map (·.1 + up)).Nodup := by
      split
      · simpa using nd
      · simp only [List.map_cons] at nd
        refine List.Nodup.sublist ?_ nd
        exact List.Sublist.append_left (List.sublist_cons_self _ _) _
    obtain ⟨r2, e2, T2⟩ := times_loop hf hn hm l _ r1 T1 (fun q hq => hl q (.tail _ hq)) nd' (by simp only [List.length_cons] at hd; by_cases q : 0 ≤ k + up ∧ k + up < 4 <;> simp [q] <;> omega)
    refine ⟨r2, fo_cons e1 e2, ?_⟩
    · have : (if 0 ≤ k + up ∧ k + up < 4 then done ++ [(k + up, fac f up k * c)] else done) ++ shift l f up = done ++ shift ((k, c) :: l) f up := by
        unfold shift
        rw [List.filterMap_cons]
        by_cases q : 0 ≤ k + up ∧ k + up < 4
        · simp [q]
        · simp only [q, if_false]
      rwa [this] at T2
theorem sub_ent {m : List (Int × Int)} {c0 c1 c2 c3 i : Int} (h : 0 ≤ i ∧ i < 4) : subD (ent b m c0 c1 c2 c3) (.int i) = some (.int (cf c0 c1 c2 c3 i)) := by
  have : i = 0 ∨ i = 1 ∨ i = 2 ∨ i = 3 := by omega
  rcases this with rfl | rfl | rfl | rfl <;> rfl
theorem sub_tab {m : List (Int × Int)} {c0 c1 c2 c3 : Int} : subD (ent b m c0 c1 c2 c3) (.int 4) = some (tbD b m) := rfl
theorem cf_bd {c0 c1 c2 c3 : Int} (h0 : bd n c0) (h1 : bd n c1) (h2 : bd n c2) (h3 : bd n c3) (i : Int) : bd n (cf c0 c1 c2 c3 i) := by
  unfold cf; repeat' split
  all_goals assumption
theorem times_elt {t : List (Int × Int)} {c0 c1 c2 c3 i : Int} {r : Rho} (h0 : r 0 = some (false, ent b t c0 c1 c2 c3)) (h1 : r 1 = some (false, .int f)) (h2 : r 2 = some (false, .int up)) (h8 : r 8 = some (false, .int i)) (hf : bd m f) (hc : ∀ j, bd n (cf c0 c1 c2 c3 j)) (hn : n ≤ 3000) (hm : m ≤ 3000) :
    ev C r (.ite (.plain (.cmp2 .le .lt (.lit (.int 0)) (.bin .sub (.var 8) (.var 2)) (.lit (.int 4)))) (.bin .mul (.bin .mul (.var 1) (.ite (.plain (.cmp .lt (.var 2) (.lit (.int 0)))) (.bin .sub (.var 8) (.var 2)) (.lit (.int 1)))) (.sub (.var 0) (.bin .sub (.var 8) (.var 2)))) (.lit (.int 0))) = some (.int (co c0 c1 c2 c3 f up i)) := by
  have e1 : ev C r (.bin .sub (.var 8) (.var 2)) = some (.int (i - up)) := e_sbt (e_var h8) (e_var h2)
  refine (e_ite (e_le_lt e_int e1 e_int)).trans ?_
  unfold co
  by_cases q : 0 ≤ i - up ∧ i - up < 4
  · rw [if_pos q, if_pos (decide_eq_true q)]
    have q2 : bd 2 (if decide (up < 0) = true then i - up else 1) := by
      split
      · unfold bd; omega
      · exact bd.lit
    have e := e_mul (e_mul (e_var h1) (ite_int (p_cmp (op := .lt) (e_var h2) (e_int (i := 0)) (c_lt _ _)) e1 (e_int (i := 1))) hf q2) (e_sub (o_var h0) e1 (sub_ent q)) (hf.mul q2) (hc (i - up))
    simp only [decide_eq_true_eq] at e
    exact e
  · rw [if_neg q, if_neg (fun h => q (of_decide_eq_true h))]; rfl
theorem F_times {t : List (Int × Int)} {c0 c1 c2 c3 : Int} (hf : bd m f) (h0 : bd n c0) (h1 : bd n c1) (h2 : bd n c2) (h3 : bd n c3) (hn : n ≤ 3000) (hm : m ≤ 3000) (hu : -3 ≤ up ∧ up ≤ 3) (ht : ∀ p ∈ t, 0 ≤ p.1 ∧ p.1 ≤ 3 ∧ bd n p.2) (nd : (t.map (·.1 + up)).Nodup) (hl : t.length ≤ 10) :
    F_law_times [ent b t c0 c1 c2 c3, .int f, .int up] = some (ent b (shift t f up) (co c0 c1 c2 c3 f up 0) (co c0 c1 c2 c3 f up 1) (co c0 c1 c2 c3 f up 2) (co c0 c1 c2 c3 f up 3)) := by
  show run C0 ss_law_times [ent b t c0 c1 c2 c3, .int f, .int up] = _
  have T0 : TI b (ent b t c0 c1 c2 c3) f up [] ((Rho.args [ent b t c0 c1 c2 c3, .int f, .int up]).own 3 (.dict [])) := ⟨rfl, rfl, rfl, rfl⟩
  refine bC fun z_ => ?_
  (obtain ⟨r1, e1, T1⟩ := times_loop (C := C0) (n := n) hf hn hm t [] _ T0 ht (by simpa using nd) (by simpa using hl)) <;> refine z_ ?_ <;> clear z_
  refine run_of (r := r1.freeze) ((execs_next (ex_own rfl)).trans ((execs_next (ex_for (i_items (b := b) (t := t) rfl) e1)).trans ?_))
  rw [List.nil_append] at T1
  have hcb := cf_bd h0 h1 h2 h3
  have g0 : r1.freeze 0 = some (false, ent b t c0 c1 c2 c3) := frz T1.h0
  have g1 : r1.freeze 1 = some (false, .int f) := frz T1.h1
  have g2 : r1.freeze 2 = some (false, .int up) := frz T1.h2
  have g3 : r1.freeze 3 = some (false, tbD b (shift t f up)) := frz T1.h3
  have ec : ev C0 r1.freeze (.comp [8] [0, 1, 2] (.range (.lit (.int 4))) .none (.ite (.plain (.cmp2 .le .lt (.lit (.int 0)) (.bin .sub (.var 8) (.var 2)) (.lit (.int 4)))) (.bin .mul (.bin .mul (.var 1) (.ite (.plain (.cmp .lt (.var 2) (.lit (.int 0)))) (.bin .sub (.var 8) (.var 2)) (.lit (.int 1)))) (.sub (.var 0) (.bin .sub (.var 8) (.var 2)))) (.lit (.int 0)))) =
      some (.list [.int (co c0 c1 c2 c3 f up 0), .int (co c0 c1 c2 c3 f up 1), .int (co c0 c1 c2 c3 f up 2), .int (co c0 c1 c2 c3 f up 3)]) := by
    refine ev_comp (l := [.int 0, .int 1, .int 2, .int 3]) rfl (hb100 (show 4 ≤ 1000 by decide)) ?_ (hb100 (show 4 ≤ 1000 by decide))
    have key : ∀ i : Int, compF C0 (r1.freeze.block [0, 1, 2]) [8] .none (.ite (.plain (.cmp2 .le .lt (.lit (.int 0)) (.bin .sub (.var 8) (.var 2)) (.lit (.int 4)))) (.bin .mul (.bin .mul (.var 1) (.ite (.plain (.cmp .lt (.var 2) (.lit (.int 0)))) (.bin .sub (.var 8) (.var 2)) (.lit (.int 1)))) (.sub (.var 0) (.bin .sub (.var 8) (.var 2)))) (.lit (.int 0))) (.int i) = some (some (.int (co c0 c1 c2 c3 f up i))) := by
      intro i
      exact comp_one (times_elt (set_k (blk g0)) (set_k (blk g1)) (set_k (blk g2)) set_eq hf hcb hn hm)
    exact fm_cons (key 0) (fm_cons (key 1) (fm_cons (key 2) (fm_cons (key 3) rfl)))
  have et : ev C0 r1.freeze (.tup [.var 3]) = some (.tup [tbD b (shift t f up)]) := e_tup (e_cons (e_var g3) e_nil) (hb100 (show 1 ≤ 1000 by decide))
  exact x_ret (e_bin (e_tupleOf ec (hb100 (show 4 ≤ 1000 by decide))) et rfl)
end
end Mine
end

/- part PC -/
section
open PySem PySem.W
set_option maxRecDepth 100000
namespace Mine
/- one more of a key -/
noncomputable def upd : List (Int × Int) → Int → Int → List (Int × Int)
  | [], k, v => [(k, v)]
  | p :: r, k, v => if p.1 = k then (k, p.2 + v) :: r else p :: upd r k v
noncomputable def mrg (t s : List (Int × Int)) : List (Int × Int) := s.foldl (fun cur p => upd cur p.1 p.2) t
theorem upd_keys {k v : Int} : ∀ {t : List (Int × Int)}, k ∈ t.map (·.1) → (upd t k v).map (·.1) = t.map (·.1)
  | [], h => by simp at h
  | p :: r, h => by
    unfold upd
    by_cases q : p.1 = k
    · rw [if_pos q]; simp [q]
    · rw [if_neg q]
      simp only [List.map_cons, List.mem_cons] at h ⊢
      rcases h with h | h
      · exact absurd h.symm q
      · rw [upd_keys h]
theorem upd_new {k v : Int} : ∀ {t : List (Int × Int)}, k ∉ t.map (·.1) → upd t k v = t ++ [(k, v)]
  | [], h => rfl
  | p :: r, h => by
    simp only [List.map_cons, List.mem_cons, not_or] at h
    unfold upd
    rw [if_neg (Ne.symm h.1), upd_new h.2]; rfl
noncomputable def old : List (Int × Int) → Int → Int
  | [], _ => 0
  | p :: r, k => if p.1 = k then p.2 else old r k
theorem find_old {b : Bool} {k : Int} : ∀ {t : List (Int × Int)}, k ∈ t.map (·.1) → (t.map fun p => (p.1, val b p.2)).find? (fun p => decide (p.1 = k)) = some (k, val b (old t k))
  | [], h => by simp at h
  | p :: r, h => by
    simp only [List.map_cons, List.mem_cons] at h
    by_cases q : p.1 = k
    · simp [List.find?, old, q]
    · rcases h with h | h
      · exact absurd h.symm q
      · simp only [List.map_cons, List.find?, q, decide_false, old, if_false]
        exact find_old h
theorem setM_upd {b : Bool} {k v : Int} : ∀ {t : List (Int × Int)}, k ∈ t.map (·.1) → setM (t.map fun p => (p.1, val b p.2)) k (val b (old t k + v)) = (upd t k v).map fun p => (p.1, val b p.2)
  | [], h => by simp at h
  | p :: r, h => by
    simp only [List.map_cons, List.mem_cons] at h
    unfold upd
    by_cases q : p.1 = k
    · simp [setM, old, q]
    · rcases h with h | h
      · exact absurd h.symm q
      · simp only [List.map_cons, setM, if_neg q, old]
        rw [setM_upd h]
theorem ex_augd {C : Cx} {r : Rho} {i : Nat} {ix x : X} {op : BO} {d e q : D} {k j : Int} {m : List (Int × D)} (h : r i = some (true, .dict m)) (h1 : ev C r ix = some (.int k)) (h2 : ev C r x = some e) (hl : m.length ≤ big) (hf : m.find? (fun p => decide (p.1 = k)) = some (j, d)) (ha : augD op d e = some q) :
    exec C r (.augSub i ix op x) = some (.next, r.own i (.dict (setM m k q))) :=
  have aug : augAt op (.dict m) k (ev C r x) = some (.dict (setM m k q)) := (if_pos hl).trans (bs (a := d) ((congrArg (Option.map (·.2)) hf).trans rfl) (bs h2 (bs ha rfl)))
  bs (own_of h) (bs h1 (bs (rfl : (D.int k).asI = some k) (bs aug rfl)))
/- what the merging loops know -/
structure AI (b : Bool) (t s cur : List (Int × Int)) (r : Rho) : Prop where
  h0 : r 0 = some (false, tbD b t)
  h1 : r 1 = some (false, tbD b s)
  h2 : r 2 = some (true, tbD b cur)
section
variable {b : Bool} {C : Cx} {t s : List (Int × Int)}
theorem add_loop1 : ∀ (l cur : List (Int × Int)) (r : Rho), AI b t s cur r → (cur.map (·.1) ++ l.map (·.1)).Nodup → cur.length + l.length ≤ 10 →
    ∃ r', forM (fun d r => do let r' ← r.put [3, 4] d; execs C r' [.setItem 2 (.var 3) (.var 4)]) (l.map fun p => .tup [.int p.1, val b p.2]) r = some (.next, r') ∧ AI b t s (cur ++ l) r'
  | [], cur, r, T, _, _ => ⟨r, rfl, by simpa using T⟩
  | p :: l, cur, r, T, nd, hd => by
    obtain ⟨k, v⟩ := p
    refine bC fun z_ => ?_
    (obtain ⟨h0, h1, h2⟩ := T) <;> refine z_ ?_ <;> clear z_
    have nk : k ∉ cur.map (·.1) := fun q => by
      rw [List.nodup_append] at nd
      exact nd.2.2 _ q _ (by simp) rfl
    have i2 : ((r.set 3 (.int k)).set 4 (val b v)) 2 = some (true, tbD b cur) := set_k (set_k h2)
    have e1 := ex_setItem (C := C) (r := (r.set 3 (.int k)).set 4 (val b v)) (i := 2) (ix := .var 3) (x := .var 4) (d := val b v) (k := k) (e_var set_eq) (e_var (set_k set_eq)) i2 (by rw [List.length_map]; exact hb100 (by omega))
    have nk' : k ∉ (cur.map fun p => (p.1, val b p.2)).map (·.1) := by rw [List.map_map]; exact nk
    rw [setM_new nk'] at e1
    have T1 : AI b t s (cur ++ [(k, v)]) (((r.set 3 (.int k)).set 4 (val b v)).own 2 (.dict ((cur.map fun p => (p.1, val b p.2)) ++ [(k, val b v)]))) :=
      ⟨own_k (set_k (set_k h0)), own_k (set_k (set_k h1)), own_eq.trans (by unfold tbD; rw [List.map_append]; rfl)⟩
    obtain ⟨r2, e2, T2⟩ := add_loop1 l _ _ T1 (by simpa using nd) (by simp only [List.length_cons] at hd; simp; omega)
    rw [List.append_assoc] at T2
    exact ⟨r2, fo_cons (execs_one e1) e2, T2⟩
noncomputable abbrev addBody : List S := [.ifs (.plain (.mem false (.var 3) (.var 2))) [.ifs (.plain (.isinst (.var 4) .tuple)) [.setItem 2 (.var 3) (.zipAdd (.var 4) (.plain (.sub (.var 2) (.var 3))))] [.augSub 2 (.var 3) .add (.var 4)]] [.setItem 2 (.var 3) (.var 4)]]
theorem add_turn {cur : List (Int × Int)} {r : Rho} {k v : Int} (T : AI b t s cur r) (hd : cur.length ≤ 10) :
    ∃ r', ((r.put [3, 4] (.tup [.int k, val b v])).bind fun r1 => execs C r1 addBody) = some (.next, r') ∧ AI b t s (upd cur k v) r' := by
  refine bC fun z_ => ?_
  (obtain ⟨h0, h1, h2⟩ := T) <;> refine z_ ?_ <;> clear z_
  generalize hr : (r.set 3 (.int k)).set 4 (val b v) = r1
  have hput : r.put [3, 4] (.tup [.int k, val b v]) = some r1 := by rw [← hr]; rfl
  have i0 : r1 0 = some (false, tbD b t) := by rw [← hr]; exact set_k (set_k h0)
  have i1 : r1 1 = some (false, tbD b s) := by rw [← hr]; exact set_k (set_k h1)
  have i2 : r1 2 = some (true, tbD b cur) := by rw [← hr]; exact set_k (set_k h2)
  have i3 : r1 3 = some (false, .int k) := by rw [← hr]; exact set_k set_eq
  have i4 : r1 4 = some (false, val b v) := by rw [← hr]; exact set_eq
  rw [hput, Option.bind_some]
  have hlen : (cur.map fun p => (p.1, val b p.2)).length ≤ big := by rw [List.length_map]; exact hb100 (by omega)
  have em : evB C r1 (.plain (.mem false (.var 3) (.var 2))) = some (decide (k ∈ cur.map (·.1))) := by
    refine p_of (bs (e_var i3) (bs (o_var i2) (bs (a := decide (k ∈ cur.map (·.1))) (congrArg some ?_) rfl)))
    rw [List.map_map]
    exact List.contains_eq_mem ..
  by_cases hk : k ∈ cur.map (·.1)
  · have ei : evB C r1 (.plain (.isinst (.var 4) .tuple)) = some b := by
      cases b <;> exact p_of (bs (e_var i4) rfl)
    have hin : ∃ r', exec C r1 (.ifs (.plain (.isinst (.var 4) .tuple)) [.setItem 2 (.var 3) (.zipAdd (.var 4) (.plain (.sub (.var 2) (.var 3))))] [.augSub 2 (.var 3) .add (.var 4)]) = some (.next, r') ∧ AI b t s (upd cur k v) r' := by
      have hs := setM_upd (b := b) (v := v) hk
      have hfo := find_old (b := b) hk
      cases b with
      | true =>
        have ez : ev C r1 (.zipAdd (.var 4) (.plain (.sub (.var 2) (.var 3)))) = some (val true (old cur k + v)) := by
          have hz : ((zipAddD [.int v, .int (-v)] [.int (old cur k), .int (-old cur k)]).bind fun l => lenOk l (.tup l)) = some (.tup [.int (v + old cur k), .int (-v + -old cur k)]) := rfl
          refine bs (e_var i4) (bs (a := val true (old cur k)) (e_sub (o_var i2) (e_var i3) ((congrArg (Option.map fun p : Int × D => p.2) hfo).trans rfl)) (hz.trans ?_))
          rw [Int.add_comm v, ← Int.neg_add, Int.add_comm v]; rfl
        have e1 := ex_setItem (C := C) (i := 2) ez (e_var i3 : ev C r1 (.var 3) = some (.int k)) i2 hlen
        refine ⟨_, ex_true ei (execs_one e1), own_k i0, own_k i1, own_eq.trans ?_⟩
        rw [hs]; rfl
      | false =>
        have e1 : exec C r1 (.augSub 2 (.var 3) .add (.var 4)) = some (.next, r1.own 2 (.dict (setM (cur.map fun p => (p.1, val false p.2)) k (val false (old cur k + v))))) := by
          exact ex_augd i2 (e_var i3) (e_var i4) hlen hfo rfl
        refine ⟨_, ex_else ei (execs_one e1), own_k i0, own_k i1, own_eq.trans ?_⟩
        rw [hs]; rfl
    refine bC fun z_ => ?_
    (obtain ⟨r', e', T'⟩ := hin) <;> refine z_ ?_ <;> clear z_
    exact ⟨r', execs_one (ex_true (em.trans (congrArg some (decide_eq_true hk))) (execs_one e')), T'⟩
  · have e1 := ex_setItem (C := C) (i := 2) (e_var i4 : ev C r1 (.var 4) = some (val b v)) (e_var i3 : ev C r1 (.var 3) = some (.int k)) i2 hlen
    refine ⟨_, execs_one (ex_else (em.trans (congrArg some (decide_eq_false hk))) (execs_one e1)), own_k i0, own_k i1, own_eq.trans ?_⟩
    have nk' : k ∉ (cur.map fun p => (p.1, val b p.2)).map (·.1) := by rw [List.map_map]; exact hk
    rw [upd_new hk, setM_new nk']; unfold tbD; rw [List.map_append]; rfl
theorem upd_len {k v : Int} : ∀ {t : List (Int × Int)}, (upd t k v).length ≤ t.length + 1
  | [] => by simp [upd]
  | p :: r => by
    unfold upd
    split
    · simp
    · have := upd_len (k := k) (v := v) (t := r)
      simp only [List.length_cons]; omega
theorem add_loop2 : ∀ (l cur : List (Int × Int)) (r : Rho), AI b t s cur r → cur.length + l.length ≤ 10 →
    ∃ r', forM (fun d r => do let r' ← r.put [3, 4] d; execs C r' addBody) (l.map fun p => .tup [.int p.1, val b p.2]) r = some (.next, r') ∧ AI b t s (mrg cur l) r'
  | [], cur, r, T, _ => ⟨r, rfl, T⟩
  | p :: l, cur, r, T, hd => by
    obtain ⟨k, v⟩ := p
    simp only [List.length_cons] at hd
    refine bC fun z_ => ?_
    (obtain ⟨r1, e1, T1⟩ := add_turn (C := C) (k := k) (v := v) T (by omega)) <;> refine z_ ?_ <;> clear z_
    have := upd_len (k := k) (v := v) (t := cur)
    refine bC fun z_ => ?_
    (obtain ⟨r2, e2, T2⟩ := add_loop2 l _ _ T1 (by omega)) <;> refine z_ ?_ <;> clear z_
    exact ⟨r2, fo_cons e1 e2, T2⟩
theorem F_callers {t s : List (Int × Int)} (nd : (t.map (·.1)).Nodup) (hl : t.length + s.length ≤ 10) : F_add_callers [tbD b t, tbD b s] = some (tbD b (mrg t s)) := by
  show run C0 ss_add_callers [tbD b t, tbD b s] = _
  have T0 : AI b t s [] ((Rho.args [tbD b t, tbD b s]).own 2 (.dict [])) := ⟨rfl, rfl, rfl⟩
  obtain ⟨r1, e1, T1⟩ := add_loop1 (C := C0) t [] _ T0 (by simpa using nd) (by simp; omega)
  rw [List.nil_append] at T1
  refine bC fun z_ => ?_
  (obtain ⟨r2, e2, T2⟩ := add_loop2 (C := C0) s t r1 T1 hl) <;> refine z_ ?_ <;> clear z_
  exact run_of (r := r2.freeze) ((execs_next (ex_own rfl)).trans ((execs_next (ex_for (i_items (b := b) (t := t) rfl) e1)).trans ((execs_next (ex_for (i_items (b := b) (t := s) (e_var T1.h1)) e2)).trans (x_ret (e_var (frz T2.h2))))))
theorem F_add {t s : List (Int × Int)} {c0 c1 c2 c3 d0 d1 d2 d3 : Int} (nd : (t.map (·.1)).Nodup) (hl : t.length + s.length ≤ 10) :
    F_add_func_stats [ent b t c0 c1 c2 c3, ent b s d0 d1 d2 d3] = some (ent b (mrg t s) (d0 + c0) (d1 + c1) (d2 + c2) (d3 + c3)) := by
  show run C1 ss_add_func_stats [ent b t c0 c1 c2 c3, ent b s d0 d1 d2 d3] = _
  have h : C1.Φ 63 [tbD b t, tbD b s] = some (tbD b (mrg t s)) := F_callers nd hl
  let A := [ent b t c0 c1 c2 c3, ent b s d0 d1 d2 d3]
  let r1 := ((((((Rho.args A).set 2 (.int d0)).set 3 (.int d1)).set 4 (.int d2)).set 5 (.int d3)).set 6 (tbD b s))
  let r2 := (((((r1.set 7 (.int c0)).set 8 (.int c1)).set 9 (.int c2)).set 10 (.int c3)).set 11 (tbD b t))
  refine run_of (r := r2.freeze) ((execs_next (r' := r1) rfl).trans ((execs_next (r' := r2) rfl).trans ?_))
  exact x_ret (e_tup (e_cons rfl (e_cons rfl (e_cons rfl (e_cons rfl (e_cons (e_call (e_cons rfl (e_cons rfl e_nil)) h) e_nil))))) (hb100 (show 5 ≤ 1000 by decide)))
end
end Mine
end

/- part PD -/
section
open PySem PySem.W
set_option maxRecDepth 100000
namespace Mine
noncomputable def deg (c0 c1 c2 c3 : Int) : Int := if c3 ≠ 0 then 3 else if c2 ≠ 0 then 2 else if c1 ≠ 0 then 1 else if c0 ≠ 0 then 0 else -1
theorem fm_if {f : D → Option (Option D)} {d x : D} {l ys : List D} {z : Bool} (h : f d = some (if z = true then some x else none)) (k : filtM f l = some ys) : filtM f (d :: l) = some (if z = true then x :: ys else ys) := by
  cases z
  · exact fm_skip h k
  · exact fm_cons h k
noncomputable abbrev nzL (a b c d : Bool) : List D := if a = true then .int 0 :: if b = true then .int 1 :: if c = true then .int 2 :: if d = true then [.int 3] else [] else if d = true then [.int 3] else [] else if c = true then .int 2 :: if d = true then [.int 3] else [] else if d = true then [.int 3] else [] else if b = true then .int 1 :: if c = true then .int 2 :: if d = true then [.int 3] else [] else if d = true then [.int 3] else [] else if c = true then .int 2 :: if d = true then [.int 3] else [] else if d = true then [.int 3] else []
noncomputable abbrev degB (a b c d : Bool) : Int := if d = true then 3 else if c = true then 2 else if b = true then 1 else if a = true then 0 else -1
theorem nzL_add : ∀ a b c d : Bool, binD .add (.list (nzL a b c d)) (.list [.int (-1)]) = some (.list (nzL a b c d ++ [.int (-1)]))
  | a, b, c, d => by cases a <;> cases b <;> cases c <;> cases d <;> rfl
theorem nzL_max : ∀ a b c d : Bool, ((D.ints (nzL a b c d ++ [.int (-1)])).bind fun ns => (maxL ns).map D.int) = some (.int (degB a b c d))
  | a, b, c, d => by cases a <;> cases b <;> cases c <;> cases d <;> rfl
theorem nzL_len : ∀ a b c d : Bool, (nzL a b c d).length ≤ 1000
  | a, b, c, d => by cases a <;> cases b <;> cases c <;> cases d <;> decide
theorem F_deg {b : Bool} {t : List (Int × Int)} {c0 c1 c2 c3 : Int} : F_law_degree [ent b t c0 c1 c2 c3] = some (.int (deg c0 c1 c2 c3)) := by
  show run C0 ss_law_degree [ent b t c0 c1 c2 c3] = _
  refine run_of (r := (Rho.args [ent b t c0 c1 c2 c3]).freeze) (x_ret ?_)
  have g0 : (Rho.args [ent b t c0 c1 c2 c3]).freeze 0 = some (false, ent b t c0 c1 c2 c3) := rfl
  generalize (Rho.args [ent b t c0 c1 c2 c3]).freeze = r at *
  have key : ∀ i : Int, 0 ≤ i ∧ i < 4 → compF C0 (r.block [0]) [1] (some (.plain (.cmp .ne (.sub (.var 0) (.var 1)) (.lit (.int 0))))) (.var 1) (.int i) = some (if (!decide (cf c0 c1 c2 c3 i = 0)) = true then some (.int i) else none) :=
    fun i hi => comp_if (p_nei (e_sub (o_var (set_k (blk g0))) (e_var set_eq) (sub_ent hi)) (e_int (i := 0))) fun _ => e_var set_eq
  have ec := ev_comp (r := r) (it := .range (.lit (.int 4))) rfl (hb100 (show 4 ≤ 1000 by decide)) (fm_if (key 0 (by decide)) (fm_if (key 1 (by decide)) (fm_if (key 2 (by decide)) (fm_if (key 3 (by decide)) rfl)))) (hb100 (nzL_len _ _ _ _))
  refine (bs (e_bin ec rfl (nzL_add _ _ _ _)) (nzL_max _ _ _ _)).trans (congrArg (fun i => some (D.int i)) ?_)
  show (if (!decide (c3 = 0)) = true then (3 : Int) else if (!decide (c2 = 0)) = true then 2 else if (!decide (c1 = 0)) = true then 1 else if (!decide (c0 = 0)) = true then 0 else -1) = _
  unfold deg
  simp only [Bool.not_eq_true', decide_eq_false_iff_not]
/- a polynomial with its table -/
structure P4 where
  t : List (Int × Int)
  c0 : Int
  c1 : Int
  c2 : Int
  c3 : Int
noncomputable def P4.d (b : Bool) (p : P4) : D := ent b p.t p.c0 p.c1 p.c2 p.c3
noncomputable def P4.at (p : P4) (v : Int) : Int := ((p.c3 * v + p.c2) * v + p.c1) * v + p.c0
noncomputable def P4.bd (n : Nat) (p : P4) : Prop := Mine.bd n p.c0 ∧ Mine.bd n p.c1 ∧ Mine.bd n p.c2 ∧ Mine.bd n p.c3
theorem F_at {b : Bool} {n m : Nat} {ps : List P4} {v : Int} (hp : ∀ p ∈ ps, p.bd n) (hv : bd m v) (hn : n + 2 * m ≤ 3000) (hl : ps.length ≤ 100) :
    F_law_at [.list (ps.map (P4.d b)), .int v] = some (.list (ps.map fun p => .int (p.at v))) := by
  show run C0 ss_law_at [.list (ps.map (P4.d b)), .int v] = _
  refine run_of (r := (Rho.args [.list (ps.map (P4.d b)), .int v]).freeze) (x_ret (ev_mapc rfl (by omega) fun p hp' => comp_one ?_))
  have g1 : ((Rho.args [.list (ps.map (P4.d b)), .int v]).freeze.block [1]) 1 = some (false, .int v) := blk rfl
  generalize (Rho.args [.list (ps.map (P4.d b)), .int v]).freeze.block [1] = r at *
  have sv : ev C0 (r.set 2 (p.d b)) (.var 1) = some (.int v) := e_var (set_k g1)
  have hq := hp p hp'
  have w1 : Mine.bd (n + m + 1) (p.c3 * v + p.c2) := (hq.2.2.2.mul hv).add (hq.2.2.1.mono (by omega))
  have w2 : Mine.bd (n + 2 * m + 2) ((p.c3 * v + p.c2) * v + p.c1) := ((w1.mul hv).mono (by omega)).add (hq.2.1.mono (by omega))
  have s := fun (i : Int) (hi : 0 ≤ i ∧ i < 4) => e_sub (C := C0) (o_var (set_eq (r := r) (i := 2) (d := p.d b))) (e_int (i := i)) (sub_ent hi)
  exact e_add (e_mul (e_add (e_mul (e_add (e_mul (s 3 (by decide)) sv hq.2.2.2 hv) (s 2 (by decide))) sv w1 hv) (s 1 (by decide))) sv w2 hv) (s 0 (by decide))
/- signs -/
noncomputable def sg1 (x : Int) : Fin 3 := if x = 0 then 0 else if x < 0 then 1 else 2
noncomputable def sgT : Fin 3 → Str | 0 => Str.ofString "" | 1 => Str.ofString "-" | 2 => Str.ofString "+"
noncomputable def sstr (bs : List Bool) : Str := ⟨(bs.map fun b => if b then (43 : Nat) else 45).toArray⟩
noncomputable def sgB : List (Fin 3) → List Bool
  | [] => []
  | 0 :: r => sgB r
  | 1 :: r => false :: sgB r
  | 2 :: r => true :: sgB r
noncomputable def sgn (xs : List Int) : List Bool := sgB (xs.map sg1)
noncomputable def joinChk (l : List (Fin 3)) : Bool := match joinD (Str.ofString "") (l.map fun i => .str (sgT i)) with | some (.str x) => decide (x = sstr (sgB l)) | _ => false
theorem join_0 : joinChk [] = true := by decide +kernel
theorem join_1 : ∀ a, joinChk [a] = true := by decide +kernel
theorem join_2 : ∀ a b, joinChk [a, b] = true := by decide +kernel
theorem join_3 : ∀ a b c, joinChk [a, b, c] = true := by decide +kernel
theorem join_4 : ∀ a b c d, joinChk [a, b, c, d] = true := by decide +kernel
theorem join_ok {l : List (Fin 3)} (h : l.length ≤ 4) : joinD (Str.ofString "") (l.map fun i => .str (sgT i)) = some (.str (sstr (sgB l))) := by
  have : joinChk l = true := by
    match l, h with
    | [], _ => exact join_0
    | [a], _ => exact join_1 a
    | [a, b], _ => exact join_2 a b
    | [a, b, c], _ => exact join_3 a b c
    | [a, b, c, d], _ => exact join_4 a b c d
  unfold joinChk at this
  split at this
  · rename_i x hx; rw [hx, of_decide_eq_true this]
  · cases this
theorem F_signs {xs : List Int} (h : xs.length ≤ 4) : F_law_signs [.list (xs.map D.int)] = some (.str (sstr (sgn xs))) := by
  show run C1 ss_law_signs [.list (xs.map D.int)] = _
  refine run_of (r := (Rho.args [.list (xs.map D.int)]).freeze) (x_ret ?_)
  generalize hr : (Rho.args [.list (xs.map D.int)]).freeze = r
  have g0 : r 0 = some (false, .list (xs.map D.int)) := by rw [← hr]; rfl
  have ec := ev_mapc (C := C1) (r := r) (ts := [1]) (caps := []) (it := .plain (.var 0)) (g := D.int) (h := fun x => .str (sgT (sg1 x))) (i_list (e_var g0)) (by omega) (elt := .ite (.plain (.call 87 [(.var 1)])) (.lit (.str (Str.ofString ""))) (.ite (.plain (.call 73 [(.bin .add (.lit (.int 256)) (.var 1))])) (.lit (.str (Str.ofString "-"))) (.lit (.str (Str.ofString "+"))))) fun x _ => comp_one (by
    have ev1 : ev C1 ((r.block []).set 1 (.int x)) (.var 1) = some (.int x) := e_var set_eq
    refine (e_ite (p_of (e_call (f := 87) (e_cons ev1 e_nil) (F_ISEOF_eq x)))).trans ?_
    unfold sg1
    by_cases q : x = 0
    · rw [if_pos (decide_eq_true q), if_pos q]; rfl
    · rw [if_neg (fun h => q (of_decide_eq_true h)), if_neg q]
      refine (e_ite (p_of (e_call (f := 73) (e_cons (e_add e_int ev1) e_nil) (F_IST_eq (256 + x))))).trans ?_
      by_cases q2 : x < 0
      · rw [if_pos (decide_eq_true (by omega)), if_pos q2]; rfl
      · rw [if_neg (fun h => q2 (by have := of_decide_eq_true h; omega)), if_neg q2]; rfl)
  refine e_meth rfl (e_cons ec e_nil) (m_join.trans ?_)
  have e : (xs.map fun x => D.str (sgT (sg1 x))) = (xs.map sg1).map fun i => .str (sgT i) := by rw [List.map_map]; rfl
  rw [e]
  exact join_ok (by rw [List.length_map]; exact h)
/- all sign strings -/
noncomputable def allS : Nat → List (List Bool)
  | 0 => [[]]
  | n + 1 => [] :: ((allS n).map (true :: ·) ++ (allS n).map (false :: ·))
theorem mem_allS : ∀ {n : Nat} {l : List Bool}, l.length ≤ n → l ∈ allS n
  | 0, [], _ => by simp [allS]
  | n + 1, [], _ => by simp [allS]
  | n + 1, true :: l, h => by
    have := mem_allS (n := n) (l := l) (by simpa using h)
    simp [allS, this]
  | n + 1, false :: l, h => by
    have := mem_allS (n := n) (l := l) (by simpa using h)
    simp [allS, this]
noncomputable def chg : List Bool → Nat
  | a :: b :: r => (if a = b then 0 else 1) + chg (b :: r)
  | _ => 0
noncomputable def chkC (bs : List Bool) : Bool := match F_law_changes [.str (sstr bs)] with | some (.int k) => decide (k = chg bs) | _ => false
noncomputable def chkF (bs : List Bool) : Bool := match F_law_fits [.str (sstr bs)] with | some (.bool b) => b || decide (bs.length = 1) | _ => false
theorem all_cut {α : Type _} {p : α → Bool} {l : List α} (n : Nat) (h : (l.take n).all p = true) (k : (l.drop n).all p = true) : l.all p = true := by
  rw [← List.take_append_drop n l, List.all_append, h, k]; rfl
theorem cha0 : ((allS 4).take 11).all chkC = true := by decide +kernel
theorem cha1 : (((allS 4).drop 11).take 10).all chkC = true := by decide +kernel
theorem cha2 : (((allS 4).drop 11).drop 10).all chkC = true := by decide +kernel
theorem chkC_all : (allS 4).all chkC = true := all_cut 11 cha0 (all_cut 10 cha1 cha2)
theorem fit0 : ((allS 4).take 4).all chkF = true := by decide +kernel
theorem fit1 : (((allS 4).drop 4).take 4).all chkF = true := by decide +kernel
theorem fit2 : ((((allS 4).drop 4).drop 4).take 4).all chkF = true := by decide +kernel
theorem fit3 : (((((allS 4).drop 4).drop 4).drop 4).take 4).all chkF = true := by decide +kernel
theorem fit4 : ((((((allS 4).drop 4).drop 4).drop 4).drop 4).take 4).all chkF = true := by decide +kernel
theorem fit5 : (((((((allS 4).drop 4).drop 4).drop 4).drop 4).drop 4).take 4).all chkF = true := by decide +kernel
theorem fit6 : ((((((((allS 4).drop 4).drop 4).drop 4).drop 4).drop 4).drop 4).take 4).all chkF = true := by decide +kernel
theorem fit7 : (((((((((allS 4).drop 4).drop 4).drop 4).drop 4).drop 4).drop 4).drop 4)).all chkF = true := by decide +kernel
theorem chkF_all : (allS 4).all chkF = true := all_cut 4 fit0 (all_cut 4 fit1 (all_cut 4 fit2 (all_cut 4 fit3 (all_cut 4 fit4 (all_cut 4 fit5 (all_cut 4 fit6 fit7))))))
theorem sgB_len : ∀ {l : List (Fin 3)}, (sgB l).length ≤ l.length
  | [] => Nat.le_refl _
  | a :: r => by
    have h := sgB_len (l := r)
    match a with
    | 0 => simp only [sgB, List.length_cons]; omega
    | 1 => simp only [sgB, List.length_cons]; omega
    | 2 => simp only [sgB, List.length_cons]; omega
theorem sgn_len {xs : List Int} : (sgn xs).length ≤ xs.length := by
  have := sgB_len (l := xs.map sg1)
  simpa [sgn] using this
theorem F_changes {bs : List Bool} (h : bs.length ≤ 4) : F_law_changes [.str (sstr bs)] = some (.int (chg bs)) := by
  have := List.all_eq_true.mp chkC_all bs (mem_allS h)
  unfold chkC at this
  split at this
  · rename_i k hk; rw [hk, of_decide_eq_true this]
  · cases this
theorem F_fits {bs : List Bool} (h : bs.length ≤ 4) (h1 : bs.length ≠ 1) : F_law_fits [.str (sstr bs)] = some (.bool true) := by
  have := List.all_eq_true.mp chkF_all bs (mem_allS h)
  unfold chkF at this
  split at this
  · rename_i k hk
    have : k = true := by simpa [h1] using this
    rw [hk, this]
  · cases this
end Mine
end

/- part PE -/
section
open PySem PySem.W
set_option maxRecDepth 100000
namespace Mine
noncomputable def timesP (f up : Int) (p : P4) : P4 := ⟨shift p.t f up, co p.c0 p.c1 p.c2 p.c3 f up 0, co p.c0 p.c1 p.c2 p.c3 f up 1, co p.c0 p.c1 p.c2 p.c3 f up 2, co p.c0 p.c1 p.c2 p.c3 f up 3⟩
/- the first is the target -/
noncomputable def addP (p q : P4) : P4 := ⟨mrg p.t q.t, q.c0 + p.c0, q.c1 + p.c1, q.c2 + p.c2, q.c3 + p.c3⟩
noncomputable def lessP (p : P4) (m : Int) : P4 := addP (timesP 1 1 p) (timesP (-m) 0 p)
noncomputable def degP (p : P4) : Int := deg p.c0 p.c1 p.c2 p.c3
noncomputable def P4.cf (p : P4) (i : Int) : Int := Mine.cf p.c0 p.c1 p.c2 p.c3 i
structure Ok (n : Nat) (p : P4) : Prop where
  c : p.bd n
  t : ∀ q ∈ p.t, 0 ≤ q.1 ∧ q.1 ≤ 3 ∧ Mine.bd n q.2
  nd : (p.t.map (·.1)).Nodup
theorem one_of {a : Int} : ∀ {l : List Int}, l.Nodup → (l.filter fun x => decide (x = a)).length ≤ 1
  | [], _ => by simp
  | x :: l, h => by
    have h' := List.nodup_cons.mp h
    by_cases q : x = a
    · subst q
      have : l.filter (fun y => decide (y = x)) = [] := by
        rw [List.filter_eq_nil_iff]
        intro y hy e
        exact h'.1 (by simpa using (of_decide_eq_true e) ▸ hy)
      simp [this]
    · have := one_of (a := a) h'.2
      simpa [List.filter_cons, q] using this
theorem len_split {p : Int → Bool} : ∀ {l : List Int}, l.length = (l.filter p).length + (l.filter fun x => !p x).length
  | [] => rfl
  | x :: l => by
    have := len_split (p := p) (l := l)
    by_cases q : p x = true
    · simp [List.filter_cons, q]; omega
    · simp [List.filter_cons, q]; omega
theorem len4 {l : List Int} (nd : l.Nodup) (h : ∀ x ∈ l, 0 ≤ x ∧ x ≤ 3) : l.length ≤ 4 := by
  have step : ∀ (a : Int) (l : List Int), l.Nodup → l.length ≤ (l.filter fun x => !decide (x = a)).length + 1 := fun a l nd => by
    have := len_split (p := fun x => decide (x = a)) (l := l)
    have := one_of (a := a) nd
    omega
  have s0 := step 0 l nd
  have n0 := List.Nodup.sublist (List.filter_sublist (p := fun x => !decide (x = 0))) nd
  have s1 := step 1 _ n0
  have n1 := List.Nodup.sublist (List.filter_sublist (p := fun x => !decide (x = 1))) n0
  have s2 := step 2 _ n1
  have n2 := List.Nodup.sublist (List.filter_sublist (p := fun x => !decide (x = 2))) n1
  have s3 := step 3 _ n2
  have : ((((l.filter fun x => !decide (x = 0)).filter fun x => !decide (x = 1)).filter fun x => !decide (x = 2)).filter fun x => !decide (x = 3)) = [] := by
    rw [List.filter_eq_nil_iff]
    intro x hx
    simp only [List.mem_filter, Bool.not_eq_true', decide_eq_false_iff_not] at hx
    have := h x hx.1.1.1
    simp; omega
  rw [this] at s3
  simp only [List.length_nil] at s3
  omega
theorem Ok.len {n : Nat} {p : P4} (h : Ok n p) : p.t.length ≤ 4 := by
  have := len4 h.nd (fun x hx => by obtain ⟨q, hq, rfl⟩ := List.mem_map.mp hx; have := h.t q hq; exact ⟨this.1, this.2.1⟩)
  simpa using this
theorem Ok.mono {n m : Nat} {p : P4} (h : Ok n p) (k : n ≤ m) : Ok m p :=
  ⟨⟨h.c.1.mono k, h.c.2.1.mono k, h.c.2.2.1.mono k, h.c.2.2.2.mono k⟩, fun q hq => ⟨(h.t q hq).1, (h.t q hq).2.1, (h.t q hq).2.2.mono k⟩, h.nd⟩
theorem Ok.cf {n : Nat} {p : P4} (h : Ok n p) (i : Int) : bd n (p.cf i) := cf_bd h.c.1 h.c.2.1 h.c.2.2.1 h.c.2.2.2 i
theorem nodup_shift {t : List (Int × Int)} {up : Int} (h : (t.map (·.1)).Nodup) : (t.map (·.1 + up)).Nodup := by
  have : t.map (·.1 + up) = (t.map (·.1)).map (· + up) := by rw [List.map_map]; rfl
  rw [this]
  exact List.Pairwise.map _ (fun a b hab => by omega) h
theorem F_timesP {b : Bool} {n m : Nat} {p : P4} {f up : Int} (h : Ok n p) (hf : bd m f) (hu : -3 ≤ up ∧ up ≤ 3) (hn : n ≤ 3000 := by omega) (hm : m ≤ 3000 := by omega) : F_law_times [p.d b, .int f, .int up] = some ((timesP f up p).d b) :=
  F_times hf h.c.1 h.c.2.1 h.c.2.2.1 h.c.2.2.2 hn hm hu h.t (nodup_shift h.nd) (Nat.le_trans h.len (by decide))
theorem Ok.times {n m : Nat} {p : P4} {f up : Int} (h : Ok n p) (hf : bd m f) : Ok (n + m + 2) (timesP f up p) := by
  have hco : ∀ i, 0 ≤ i ∧ i < 4 → bd (n + m + 2) (co p.c0 p.c1 p.c2 p.c3 f up i) := fun i hi => by
    unfold co
    split
    · have q2 : bd 2 (if up < 0 then i - up else 1) := by
        split
        · unfold bd; omega
        · exact bd.lit
      exact ((hf.mul q2).mul (cf_bd h.c.1 h.c.2.1 h.c.2.2.1 h.c.2.2.2 (i - up))).mono (by omega)
    · exact Nat.pow_pos (by decide)
  refine ⟨⟨hco 0 (by decide), hco 1 (by decide), hco 2 (by decide), hco 3 (by decide)⟩, fun q hq => ?_, ?_⟩
  · simp only [timesP, shift, List.mem_filterMap] at hq
    refine bC fun z_ => ?_
    (obtain ⟨p', hp', hq⟩ := hq) <;> refine z_ ?_ <;> clear z_
    split at hq
    · rename_i hr
      cases hq
      refine bC fun z_ => ?_
      (obtain ⟨k1, k2, k3⟩ := h.t p' hp') <;> refine z_ ?_ <;> clear z_
      have q2 : bd 2 (if up < 0 then p'.1 else 1) := by
        split
        · unfold bd; omega
        · exact bd.lit
      refine ⟨hr.1, by show p'.1 + up ≤ 3; omega, ?_⟩
      exact ((hf.mul q2).mul k3).mono (by omega)
    · cases hq
  · have hs : ((timesP f up p).t.map (·.1)).Sublist (p.t.map (·.1 + up)) := by
      show ((shift p.t f up).map (·.1)).Sublist _
      unfold shift
      induction p.t with
      | nil => exact List.Sublist.refl _
      | cons q r ih =>
        rw [List.filterMap_cons, List.map_cons]
        by_cases hr : 0 ≤ q.1 + up ∧ q.1 + up < 4
        · simp only [hr, and_self, if_true, List.map_cons]; exact ih.cons_cons _
        · simp only [hr, if_false]; exact ih.cons _
    exact (nodup_shift h.nd).sublist hs
theorem upd_mem {k v : Int} {n : Nat} : ∀ {t : List (Int × Int)}, (∀ q ∈ t, 0 ≤ q.1 ∧ q.1 ≤ 3 ∧ bd n q.2) → 0 ≤ k ∧ k ≤ 3 → bd n v → (t.map (·.1)).Nodup → ∀ q ∈ upd t k v, 0 ≤ q.1 ∧ q.1 ≤ 3 ∧ bd (n + 1) q.2
  | [], _, hk, hv, _, q, hq => by
    simp only [upd, List.mem_singleton] at hq; subst hq
    exact ⟨hk.1, hk.2, hv.mono (by omega)⟩
  | p :: r, ht, hk, hv, nd, q, hq => by
    unfold upd at hq
    split at hq
    · rename_i e
      rcases List.mem_cons.mp hq with rfl | hq
      · exact ⟨hk.1, hk.2, (ht p (.head _)).2.2.add hv⟩
      · have := ht q (.tail _ hq); exact ⟨this.1, this.2.1, this.2.2.mono (by omega)⟩
    · rcases List.mem_cons.mp hq with rfl | hq
      · have := ht q (.head _); exact ⟨this.1, this.2.1, this.2.2.mono (by omega)⟩
      · exact upd_mem (fun z hz => ht z (.tail _ hz)) hk hv (List.nodup_cons.mp nd).2 q hq
theorem upd_nd {t : List (Int × Int)} {k v : Int} (nd : (t.map (·.1)).Nodup) : ((upd t k v).map (·.1)).Nodup := by
  by_cases h : k ∈ t.map (·.1)
  · rw [upd_keys h]; exact nd
  · rw [upd_new h, List.map_append, List.nodup_append]
    refine ⟨nd, by simp, fun a ha c hc e => ?_⟩
    simp only [List.map_cons, List.map_nil, List.mem_singleton] at hc
    exact h (hc ▸ e ▸ ha)
theorem mrg_ok {n : Nat} : ∀ {s t : List (Int × Int)} (k : Nat), (∀ q ∈ t, 0 ≤ q.1 ∧ q.1 ≤ 3 ∧ bd (n + k) q.2) → (t.map (·.1)).Nodup → (∀ q ∈ s, 0 ≤ q.1 ∧ q.1 ≤ 3 ∧ bd n q.2) → (∀ q ∈ mrg t s, 0 ≤ q.1 ∧ q.1 ≤ 3 ∧ bd (n + k + s.length) q.2) ∧ ((mrg t s).map (·.1)).Nodup
  | [], t, k, ht, nd, _ => ⟨ht, nd⟩
  | p :: s, t, k, ht, nd, hs => by
    have h1 := upd_mem ht ⟨(hs p (.head _)).1, (hs p (.head _)).2.1⟩ ((hs p (.head _)).2.2.mono (Nat.le_add_right n k)) nd
    have := mrg_ok (s := s) (t := upd t p.1 p.2) (k + 1) h1 (upd_nd nd) fun q hq => hs q (.tail _ hq)
    refine ⟨fun q hq => ?_, this.2⟩
    have := this.1 q hq
    rw [show n + k + (p :: s).length = n + (k + 1) + s.length by simp; omega]
    exact this
theorem Ok.add {n : Nat} {p q : P4} (h : Ok n p) (k : Ok n q) : Ok (n + 4) (addP p q) := by
  obtain ⟨m1, m2⟩ := mrg_ok (n := n) 0 h.t h.nd k.t
  have hl := k.len
  refine ⟨⟨(k.c.1.add h.c.1).mono (by omega), (k.c.2.1.add h.c.2.1).mono (by omega), (k.c.2.2.1.add h.c.2.2.1).mono (by omega), (k.c.2.2.2.add h.c.2.2.2).mono (by omega)⟩, fun z hz => ?_, m2⟩
  have := m1 z hz
  exact ⟨this.1, this.2.1, this.2.2.mono (by omega)⟩
theorem F_addP {b : Bool} {n m : Nat} {p q : P4} (h : Ok n p) (k : Ok m q) : F_add_func_stats [p.d b, q.d b] = some ((addP p q).d b) :=
  F_add h.nd (by have := h.len; have := k.len; omega)
theorem Ok.less {n m : Nat} {p : P4} {x : Int} (h : Ok n p) (hx : bd m x) : Ok (n + m + 7) (lessP p x) :=
  ((((h.times (bd.lit (n := 1)) : Ok (n + 1 + 2) (timesP 1 1 p))).mono (by omega)).add ((h.times hx.neg : Ok (n + m + 2) _).mono (m := n + m + 3) (by omega))).mono (by omega)
theorem F_lessP {b : Bool} {n m : Nat} {p : P4} {x : Int} (h : Ok n p) (hx : bd m x) (hn : n ≤ 2900) (hm : m ≤ 2900) : F_law_less [p.d b, .int x] = some ((lessP p x).d b) := by
  show run C2 ss_law_less [p.d b, .int x] = _
  refine run_of (r := (Rho.args [p.d b, .int x]).freeze) ?_
  unfold ss_law_less
  refine x_ret ?_
  have e1 := F_timesP (b := b) (up := 1) h (bd.lit (n := 1) : bd 1 1) (by decide)
  have e2 := F_timesP (b := b) (up := 0) h hx.neg (by decide)
  exact e_call (C := C2) (f := 56) (e_cons (e_call (C := C2) (f := 99) (e_cons rfl (e_cons rfl (e_cons rfl e_nil))) e1) (e_cons (e_call (C := C2) (f := 99) (e_cons rfl (e_cons rfl (e_cons rfl e_nil))) e2) e_nil)) (F_addP (h.times (bd.lit (n := 1))) (h.times hx.neg))
end Mine
end

/- part PF -/
section
open PySem PySem.W
set_option maxRecDepth 100000
namespace Mine
theorem deg_range (p : P4) : -1 ≤ degP p ∧ degP p ≤ 3 := by
  unfold degP deg; repeat' split
  all_goals decide
noncomputable def elimP (rest q : P4) (low : Int) : P4 :=
  if degP rest ≥ low ∧ low > 0 then addP (timesP (q.cf low).natAbs 0 rest) (timesP (if q.cf low > 0 then -(rest.cf (degP rest)) else rest.cf (degP rest)) (degP rest - low) q) else rest
theorem bd.abs {n : Nat} {x : Int} (h : bd n x) : bd n x.natAbs := h
theorem Ok.elim {n : Nat} {p q : P4} {low : Int} (h : Ok n p) (k : Ok n q) : Ok (2 * n + 6) (elimP p q low) := by
  unfold elimP
  split
  · have hb : bd n (if q.cf low > 0 then -(p.cf (degP p)) else p.cf (degP p)) := by
      split
      · exact (h.cf _).neg
      · exact h.cf _
    exact ((h.times (k.cf low).abs).add ((k.times hb).mono (by omega))).mono (by omega)
  · exact h.mono (by omega)
noncomputable def stepC (ch : List P4) (p q : P4) : List P4 :=
  let rest := elimP (elimP p q (degP q)) q (degP q)
  if degP q > 0 ∧ degP rest ≥ 0 then ch ++ [timesP (-1) 0 rest] else ch
theorem sub_last {l m : List D} {d : D} {i : Int} {k : Nat} (h : l.length ≤ 1000) (hi : i < 0) (hk : -(l.length : Int) ≤ i) (e : (i + l.length).toNat = k) (g : l[k]? = some d) : subD (.list l) (.int i) = some d := by
  show (if l.length ≤ big then (idxOf i l.length).bind fun k => l[k]? else .none) = _
  rw [if_pos (hb100 h)]
  unfold idxOf
  rw [if_neg (by omega), if_pos ⟨hi, hk⟩, e]; exact g
theorem at_app {α : Type} : ∀ {l m : List α} {k : Nat}, (l ++ m)[l.length + k]? = m[k]?
  | [], m, k => by rw [List.nil_append, List.length_nil, Nat.zero_add]
  | a :: l, m, k => by rw [List.length_cons, Nat.add_right_comm]; exact at_app (l := l)
theorem last1 {b : Bool} {pre : List P4} {p q : P4} (h : pre.length ≤ 100) : subD (.list ((pre ++ [p, q]).map (P4.d b))) (.int (-1)) = some (q.d b) := by
  have e : ((pre ++ [p, q]).map (P4.d b)).length = pre.length + 2 := by rw [List.length_map, List.length_append]; rfl
  exact sub_last (m := []) (k := pre.length + 1) (by omega) (by decide) (by omega) (by omega) (by rw [List.getElem?_map, at_app]; rfl)
theorem last2 {b : Bool} {pre : List P4} {p q : P4} (h : pre.length ≤ 100) : subD (.list ((pre ++ [p, q]).map (P4.d b))) (.int (-2)) = some (p.d b) := by
  have e : ((pre ++ [p, q]).map (P4.d b)).length = pre.length + 2 := by rw [List.length_map, List.length_append]; rfl
  exact sub_last (m := []) (k := pre.length + 0) (by omega) (by decide) (by omega) (by omega) (by rw [List.getElem?_map, at_app]; rfl)
theorem F_degP {b : Bool} {p : P4} : F_law_degree [p.d b] = some (.int (degP p)) := F_deg
structure CI (b : Bool) (ch : List P4) (rest : P4) (low : Int) (r : Rho) : Prop where
  h1 : r 1 = some (true, .list (ch.map (P4.d b)))
  h3 : r 3 = some (false, rest.d b)
  h4 : r 4 = some (false, .int low)
section
variable {b : Bool} {n : Nat} {pre : List P4} {p q : P4}
noncomputable abbrev inBody : List S := [.assign [6] (.call 111 [(.var 3)]), .ifs (.plain (.cmp2 .ge .gt (.var 6) (.var 4) (.lit (.int 0)))) [.assign [3] (.call 56 [(.call 99 [(.var 3), (.abs (.sub (.plain (.sub (.var 1) (.neg (.lit (.int 1))))) (.var 4))), (.lit (.int 0))]), (.call 99 [(.sub (.var 1) (.neg (.lit (.int 1)))), (.ite (.plain (.cmp .gt (.sub (.plain (.sub (.var 1) (.neg (.lit (.int 1))))) (.var 4)) (.lit (.int 0)))) (.neg (.sub (.var 3) (.var 6))) (.sub (.var 3) (.var 6))), (.bin .sub (.var 6) (.var 4))])])] []]
theorem in_turn {rest : P4} {low : Int} {r : Rho} {s : Int} (T : CI b (pre ++ [p, q]) rest low r) (hp : pre.length ≤ 100) (h : Ok n rest) (k : Ok n q) (hn : n ≤ 1400) (hlow : low ≤ 3) :
    ∃ r', ((r.put [5] (.int s)).bind fun r1 => execs C2 r1 inBody) = some (.next, r') ∧ CI b (pre ++ [p, q]) (elimP rest q low) low r' := by
  refine bC fun z_ => ?_
  (obtain ⟨h1, h3, h4⟩ := T) <;> refine z_ ?_ <;> clear z_
  show ∃ r', execs C2 (r.set 5 (.int s)) inBody = some (.next, r') ∧ _
  have g3 : (r.set 5 (.int s)) 3 = some (false, rest.d b) := set_k h3
  have e6 : ev C2 (r.set 5 (.int s)) (.call 111 [(.var 3)]) = some (.int (degP rest)) := e_call (C := C2) (f := 111) (e_cons (d := rest.d b) (e_var g3) e_nil) F_degP
  rw [execs_next (ex_assign e6)]
  have i1 : ((r.set 5 (.int s)).set 6 (.int (degP rest))) 1 = some (true, .list ((pre ++ [p, q]).map (P4.d b))) := set_k (set_k h1)
  have i3 : ((r.set 5 (.int s)).set 6 (.int (degP rest))) 3 = some (false, rest.d b) := set_k g3
  have i4 : ((r.set 5 (.int s)).set 6 (.int (degP rest))) 4 = some (false, .int low) := set_k (set_k h4)
  have i6 : ((r.set 5 (.int s)).set 6 (.int (degP rest))) 6 = some (false, .int (degP rest)) := set_eq
  generalize (r.set 5 (.int s)).set 6 (.int (degP rest)) = r1 at *
  have v3 : ev C2 r1 (.var 3) = some (rest.d b) := e_var i3
  have v4 : ev C2 r1 (.var 4) = some (.int low) := e_var i4
  have v6 : ev C2 r1 (.var 6) = some (.int (degP rest)) := e_var i6
  have et := e_ge_gt v6 v4 (rfl : ev C2 r1 (.lit (.int 0)) = some (.int 0))
  unfold elimP
  by_cases hc : degP rest ≥ low ∧ low > 0
  · have dr := deg_range rest
    have vq : ev C2 r1 (.sub (.var 1) (.neg (.lit (.int 1)))) = some (q.d b) := e_sub (o_var i1) (e_neg e_int) (last1 hp)
    have vql : ev C2 r1 (.sub (.plain (.sub (.var 1) (.neg (.lit (.int 1))))) (.var 4)) = some (.int (q.cf low)) := e_sub vq v4 (sub_ent (by omega))
    have vrh : ev C2 r1 (.sub (.var 3) (.var 6)) = some (.int (rest.cf (degP rest))) := e_sub (o_var i3) v6 (sub_ent (by omega))
    have va : ev C2 r1 (.abs (.sub (.plain (.sub (.var 1) (.neg (.lit (.int 1))))) (.var 4))) = some (.int (q.cf low).natAbs) := bs vql rfl
    have vi : ev C2 r1 (.ite (.plain (.cmp .gt (.sub (.plain (.sub (.var 1) (.neg (.lit (.int 1))))) (.var 4)) (.lit (.int 0)))) (.neg (.sub (.var 3) (.var 6))) (.sub (.var 3) (.var 6))) = some (.int (if q.cf low > 0 then -(rest.cf (degP rest)) else rest.cf (degP rest))) := by
      have e := ite_int (p_cmp (op := .gt) vql (e_int (i := 0)) (c_gt _ _)) (e_neg vrh) vrh
      simp only [decide_eq_true_eq] at e; exact e
    have vd : ev C2 r1 (.bin .sub (.var 6) (.var 4)) = some (.int (degP rest - low)) := e_bin v6 v4 (b_sub _ _)
    have hb : bd n (if q.cf low > 0 then -(rest.cf (degP rest)) else rest.cf (degP rest)) := by
      split
      · exact (h.cf _).neg
      · exact h.cf _
    have e1 := F_timesP (b := b) (up := 0) h (k.cf low).abs (by decide)
    have e2 := F_timesP (b := b) (up := degP rest - low) k hb (by omega)
    have e3 := F_addP (b := b) (h.times (up := 0) (k.cf low).abs) (k.times (up := degP rest - low) hb)
    have ex : ev C2 r1 (.call 56 [(.call 99 [(.var 3), (.abs (.sub (.plain (.sub (.var 1) (.neg (.lit (.int 1))))) (.var 4))), (.lit (.int 0))]), (.call 99 [(.sub (.var 1) (.neg (.lit (.int 1)))), (.ite (.plain (.cmp .gt (.sub (.plain (.sub (.var 1) (.neg (.lit (.int 1))))) (.var 4)) (.lit (.int 0)))) (.neg (.sub (.var 3) (.var 6))) (.sub (.var 3) (.var 6))), (.bin .sub (.var 6) (.var 4))])]) = _ := e_call (C := C2) (r := r1) (f := 56) (e_cons (e_call (C := C2) (f := 99) (e_cons v3 (e_cons va (e_cons rfl e_nil))) e1) (e_cons (e_call (C := C2) (f := 99) (e_cons vq (e_cons vi (e_cons vd e_nil))) e2) e_nil)) e3
    refine ⟨_, execs_one (ex_true (et.trans (congrArg some (decide_eq_true hc))) (execs_one (ex_assign ex))), ?_⟩
    rw [if_pos hc]
    exact ⟨set_k i1, set_eq, set_k i4⟩
  · refine ⟨r1, execs_one (ex_false (et.trans (congrArg some (decide_eq_false hc)))), ?_⟩
    rw [if_neg hc]
    exact ⟨i1, i3, i4⟩
noncomputable abbrev outBody : List S := [.assign [3, 4] (.tup [(.sub (.var 1) (.neg (.lit (.int 2)))), (.call 111 [(.sub (.var 1) (.neg (.lit (.int 1))))])]), .fors [5] (.range (.lit (.int 2))) inBody, .ifs (.band (.plain (.cmp .gt (.var 4) (.lit (.int 0)))) (.plain (.cmp .ge (.call 111 [(.var 3)]) (.lit (.int 0))))) [.append 1 (.call 99 [(.var 3), (.neg (.lit (.int 1))), (.lit (.int 0))])] []]
theorem out_turn {r : Rho} {s : Int} (h1 : r 1 = some (true, .list ((pre ++ [p, q]).map (P4.d b)))) (hp : pre.length ≤ 100) (h : Ok n p) (k : Ok n q) (hn : n ≤ 600) :
    ∃ r', ((r.put [2] (.int s)).bind fun r1 => execs C2 r1 outBody) = some (.next, r') ∧ r' 1 = some (true, .list ((stepC (pre ++ [p, q]) p q).map (P4.d b))) := by
  show ∃ r', execs C2 (r.set 2 (.int s)) outBody = some (.next, r') ∧ _
  have i1 : (r.set 2 (.int s)) 1 = some (true, .list ((pre ++ [p, q]).map (P4.d b))) := set_k h1
  generalize r.set 2 (.int s) = r0 at *
  have vq : ev C2 r0 (.sub (.var 1) (.neg (.lit (.int 1)))) = some (q.d b) := e_sub (o_var i1) (e_neg e_int) (last1 hp)
  have vp : ev C2 r0 (.sub (.var 1) (.neg (.lit (.int 2)))) = some (p.d b) := e_sub (o_var i1) (e_neg e_int) (last2 hp)
  have vt := e_tup (e_cons vp (e_cons (e_call (C := C2) (f := 111) (e_cons vq e_nil) F_degP) e_nil)) (hb100 (show 2 ≤ 1000 by decide))
  have ea : exec C2 r0 (.assign [3, 4] (.tup [(.sub (.var 1) (.neg (.lit (.int 2)))), (.call 111 [(.sub (.var 1) (.neg (.lit (.int 1))))])])) = some (.next, (r0.set 3 (p.d b)).set 4 (.int (degP q))) := ex_put vt rfl
  rw [execs_next ea]
  have T0 : CI b (pre ++ [p, q]) p (degP q) ((r0.set 3 (p.d b)).set 4 (.int (degP q))) := ⟨set_k (set_k i1), set_k set_eq, set_eq⟩
  have dq := deg_range q
  refine bC fun z_ => ?_
  (obtain ⟨r1, e1, T1⟩ := in_turn (s := 0) T0 hp h k (by omega) dq.2) <;> refine z_ ?_ <;> clear z_
  have h' := h.elim (low := degP q) k
  refine bC fun z_ => ?_
  (obtain ⟨r2, e2, T2⟩ := in_turn (s := 1) T1 hp h' (k.mono (by omega)) (by omega) dq.2) <;> refine z_ ?_ <;> clear z_
  have ef : exec C2 ((r0.set 3 (p.d b)).set 4 (.int (degP q))) (.fors [5] (.range (.lit (.int 2))) inBody) = some (.next, r2) := ex_for (l := [.int 0, .int 1]) rfl (fo_cons e1 (fo_cons e2 rfl))
  rw [execs_next ef]
  have v3 : ev C2 r2 (.var 3) = some ((elimP (elimP p q (degP q)) q (degP q)).d b) := e_var T2.h3
  have v4 : ev C2 r2 (.var 4) = some (.int (degP q)) := e_var T2.h4
  have h'' := h'.elim (low := degP q) (k.mono (by omega))
  have et : evB C2 r2 (.band (.plain (.cmp .gt (.var 4) (.lit (.int 0)))) (.plain (.cmp .ge (.call 111 [(.var 3)]) (.lit (.int 0))))) = some (decide (degP q > 0 ∧ degP (elimP (elimP p q (degP q)) q (degP q)) ≥ 0)) := by
    have ec := e_call (C := C2) (f := 111) (e_cons v3 e_nil) F_degP
    exact (b_and (p_cmp (op := .gt) v4 (e_int (i := 0)) (c_gt _ _)) (p_cmp (op := .ge) ec (e_int (i := 0)) (c_ge _ _))).trans (congrArg some dec_and)
  unfold stepC
  by_cases hc : degP q > 0 ∧ degP (elimP (elimP p q (degP q)) q (degP q)) ≥ 0
  · have e4 := F_timesP (b := b) (f := -1) (up := 0) h'' (bd.lit (n := 1)) (by decide)
    have ex : ev C2 r2 (.call 99 [(.var 3), (.neg (.lit (.int 1))), (.lit (.int 0))]) = _ := e_call (C := C2) (r := r2) (f := 99) (e_cons v3 (e_cons (rfl : ev C2 r2 (.neg (.lit (.int 1))) = some (.int (-1))) (e_cons rfl e_nil))) e4
    have ep : exec C2 r2 (.append 1 (.call 99 [(.var 3), (.neg (.lit (.int 1))), (.lit (.int 0))])) = some (.next, r2.own 1 (.list ((pre ++ [p, q]).map (P4.d b) ++ [(timesP (-1) 0 (elimP (elimP p q (degP q)) q (degP q))).d b]))) := by
      have e : ((pre ++ [p, q]).map (P4.d b)).length = pre.length + 2 := by rw [List.length_map, List.length_append]; rfl
      exact ex_append ex T2.h1 (by omega)
    refine ⟨_, execs_one (ex_true (et.trans (congrArg some (decide_eq_true hc))) (execs_one ep)), ?_⟩
    rw [if_pos hc, List.map_append (l₁ := pre ++ [p, q])]
    exact own_eq
  · refine ⟨r2, execs_one (ex_false (et.trans (congrArg some (decide_eq_false hc)))), ?_⟩
    rw [if_neg hc]
    exact T2.h1
end
noncomputable def pq (ch : List P4) (w : P4) : P4 × P4 := match ch.reverse with | q :: p :: _ => (p, q) | _ => (w, w)
noncomputable def chainP (w : P4) : List P4 :=
  let w1 := timesP 1 (-1) w
  let ch := stepC [w, w1] w w1
  match ch with
  | [_, _, r] => stepC ch w1 r
  | _ => stepC ch w w1
theorem stepC_cases (ch : List P4) (p q : P4) : stepC ch p q = ch ∨ stepC ch p q = ch ++ [timesP (-1) 0 (elimP (elimP p q (degP q)) q (degP q))] := by
  unfold stepC; dsimp only; split
  · exact .inr rfl
  · exact .inl rfl
theorem F_chain {b : Bool} {n : Nat} {w : P4} (h : Ok n w) (hn : n ≤ 100) : F_law_chain [w.d b] = some (.list ((chainP w).map (P4.d b))) := by
  show run C2 ss_law_chain [w.d b] = _
  have hw1 := h.times (f := 1) (up := -1) (bd.lit (n := 1))
  have e0 := F_timesP (b := b) (f := 1) (up := -1) h (bd.lit (n := 1)) (by decide)
  have el : ev C2 (Rho.args [w.d b]) (.list [(.var 0), (.call 99 [(.var 0), (.lit (.int 1)), (.neg (.lit (.int 1)))])]) = some (.list [w.d b, (timesP 1 (-1) w).d b]) := e_list (e_cons rfl (e_cons (e_call (C := C2) (f := 99) (e_cons rfl (e_cons rfl (e_cons rfl e_nil))) e0) e_nil)) (show 2 ≤ 100 by decide)
  have g1 : ((Rho.args [w.d b]).own 1 (.list [w.d b, (timesP 1 (-1) w).d b])) 1 = some (true, .list (([] ++ [w, timesP 1 (-1) w]).map (P4.d b))) := rfl
  refine bC fun z_ => ?_
  (obtain ⟨r1, e1, k1⟩ := out_turn (pre := []) (s := 0) g1 (by decide) (h.mono (m := n + 3) (by omega)) (hw1.mono (m := n + 3) (by omega)) (by omega)) <;> refine z_ ?_ <;> clear z_
  have fin : ∀ r2, ((r1.put [2] (.int 1)).bind fun r1 => execs C2 r1 outBody) = some (.next, r2) → r2 1 = some (true, .list ((chainP w).map (P4.d b))) → run C2 ss_law_chain [w.d b] = some (.list ((chainP w).map (P4.d b))) := by
    intro r2 e2 k2
    have ef : exec C2 ((Rho.args [w.d b]).own 1 (.list [w.d b, (timesP 1 (-1) w).d b])) (.fors [2] (.range (.lit (.int 2))) outBody) = some (.next, r2) := ex_for (l := [.int 0, .int 1]) rfl (fo_cons e1 (fo_cons e2 rfl))
    exact run_of (r := r2.freeze) ((execs_next (ex_own el)).trans ((execs_next ef).trans (x_ret (e_var (frz k2)))))
  rcases stepC_cases [w, timesP 1 (-1) w] w (timesP 1 (-1) w) with hs | hs
  · have k1' : r1 1 = some (true, .list (([] ++ [w, timesP 1 (-1) w]).map (P4.d b))) := by
      have : stepC ([] ++ [w, timesP 1 (-1) w]) w (timesP 1 (-1) w) = [w, timesP 1 (-1) w] := hs
      rw [this] at k1; exact k1
    refine bC fun z_ => ?_
    (obtain ⟨r2, e2, k2⟩ := out_turn (pre := []) (s := 1) k1' (by decide) (h.mono (m := n + 3) (by omega)) (hw1.mono (m := n + 3) (by omega)) (by omega)) <;> refine z_ ?_ <;> clear z_
    refine fin r2 e2 ?_
    rw [k2]
    unfold chainP
    dsimp only
    rw [hs]
    rfl
  · have hr := (((h.mono (m := n + 3) (by omega)).elim (low := degP (timesP 1 (-1) w)) (hw1.mono (m := n + 3) (by omega))).elim (low := degP (timesP 1 (-1) w)) (hw1.mono (by omega))).times (f := -1) (up := 0) (bd.lit (n := 1))
    generalize hR : timesP (-1) 0 (elimP (elimP w (timesP 1 (-1) w) (degP (timesP 1 (-1) w))) (timesP 1 (-1) w) (degP (timesP 1 (-1) w))) = R at *
    have k1' : r1 1 = some (true, .list (([w] ++ [timesP 1 (-1) w, R]).map (P4.d b))) := by
      have : stepC ([] ++ [w, timesP 1 (-1) w]) w (timesP 1 (-1) w) = [w, timesP 1 (-1) w] ++ [R] := hs
      rw [this] at k1; exact k1
    refine bC fun z_ => ?_
    (obtain ⟨r2, e2, k2⟩ := out_turn (pre := [w]) (s := 1) k1' (Nat.le_of_ble_eq_true rfl) (hw1.mono (by omega)) (hr.mono (m := 2 * (2 * (n + 3) + 6) + 6 + 1 + 2) (by omega)) (by omega)) <;> refine z_ ?_ <;> clear z_
    refine fin r2 e2 ?_
    rw [k2]
    unfold chainP
    dsimp only
    rw [hs]
    rfl
end Mine
end

/- part PM -/
section
set_option maxRecDepth 100000
namespace Mine
theorem sgn_nil : sgn [] = [] := rfl
theorem sgn_zero (xs : List Int) : sgn (0 :: xs) = sgn xs := rfl
theorem sgn_neg {x : Int} {xs : List Int} (h : x < 0) : sgn (x :: xs) = false :: sgn xs := by
  have : sg1 x = 1 := by unfold sg1; rw [if_neg (by omega), if_pos h]
  simp [sgn, this, sgB]
theorem sgn_pos {x : Int} {xs : List Int} (h : 0 < x) : sgn (x :: xs) = true :: sgn xs := by
  have : sg1 x = 2 := by unfold sg1; rw [if_neg (by omega), if_neg (by omega)]
  simp [sgn, this, sgB]
theorem sgn_eq {x : Int} {xs : List Int} (h : x = 0) : sgn (x :: xs) = sgn xs := by subst h; rfl
theorem sgB_not : ∀ (l : List (Fin 3)), sgB (l.map fun i => match i with | 0 => 0 | 1 => 2 | 2 => 1) = (sgB l).map (!·)
  | [] => rfl
  | a :: r => by
    have h := sgB_not r
    match a with
    | 0 => simpa [sgB] using h
    | 1 => simpa [sgB] using h
    | 2 => simpa [sgB] using h
theorem chg_not : ∀ (l : List Bool), chg (l.map (!·)) = chg l
  | [] => rfl
  | [a] => rfl
  | a :: b :: r => by
    have h := chg_not (b :: r)
    simp only [List.map_cons] at h ⊢
    unfold chg
    rw [h]
    cases a <;> cases b <;> rfl
theorem sgn_scale {L : Int} (h : 0 < L) (xs : List Int) : sgn (xs.map (L * ·)) = sgn xs := by
  unfold sgn
  rw [List.map_map]
  congr 1
  refine List.map_congr_left fun x _ => ?_
  show sg1 (L * x) = sg1 x
  unfold sg1
  rcases Int.lt_trichotomy x 0 with h1 | h1 | h1
  · have := Int.mul_neg_of_pos_of_neg h h1
    rw [if_neg (by omega), if_pos this, if_neg (by omega), if_pos h1]
  · subst h1; simp
  · have := Int.mul_pos h h1
    rw [if_neg (by omega), if_neg (by omega), if_neg (by omega), if_neg (by omega)]
theorem sgn_flip {L : Int} (h : L < 0) (xs : List Int) : sgn (xs.map (L * ·)) = (sgn xs).map (!·) := by
  unfold sgn
  rw [List.map_map, ← sgB_not, List.map_map]
  congr 1
  refine List.map_congr_left fun x _ => ?_
  show sg1 (L * x) = match sg1 x with | 0 => 0 | 1 => 2 | 2 => 1
  unfold sg1
  rcases Int.lt_trichotomy x 0 with h1 | h1 | h1
  · have := Int.mul_pos_of_neg_of_neg h h1
    rw [if_neg (by omega), if_neg (by omega), if_neg (by omega), if_pos h1]
  · subst h1; simp
  · have := Int.mul_neg_of_neg_of_pos h h1
    rw [if_neg (by omega), if_pos this, if_neg (by omega), if_neg (by omega)]
/- the number of sign changes -/
noncomputable def sc (xs : List Int) : Nat := chg (sgn xs)
theorem sc_scale {L : Int} (h : L ≠ 0) (xs : List Int) : sc (xs.map (L * ·)) = sc xs := by
  unfold sc
  rcases Int.lt_trichotomy L 0 with h1 | h1 | h1
  · rw [sgn_flip h1, chg_not]
  · exact absurd h1 h
  · rw [sgn_scale h1]
theorem sq0 (a : Int) : 0 ≤ a * a := by
  rcases Int.le_total 0 a with h | h
  · exact Int.mul_nonneg h h
  · exact Int.mul_nonneg_of_nonpos_of_nonpos h h
theorem pp {a b : Int} (h : 0 < a) (k : 0 < b) : 0 < a * b := Int.mul_pos h k
theorem nn {a b : Int} (h : a < 0) (k : b < 0) : 0 < a * b := Int.mul_pos_of_neg_of_neg h k
theorem pn {a b : Int} (h : 0 < a) (k : b < 0) : a * b < 0 := Int.mul_neg_of_pos_of_neg h k
theorem np {a b : Int} (h : a < 0) (k : 0 < b) : a * b < 0 := Int.mul_neg_of_neg_of_pos h k
theorem sgm (a b : Int) : (0 < a → 0 < b → 0 < a * b) ∧ (a < 0 → b < 0 → 0 < a * b) ∧ (0 < a → b < 0 → a * b < 0) ∧ (a < 0 → 0 < b → a * b < 0) ∧ (a = 0 → a * b = 0) ∧ (b = 0 → a * b = 0) :=
  ⟨pp, nn, pn, np, fun h => by subst h; simp, fun h => by subst h; simp⟩
theorem ne_cases {a : Int} (h : a ≠ 0) : a < 0 ∨ 0 < a := by omega
theorem sgn_nz {x : Int} {xs : List Int} (h : x ≠ 0) : sgn (x :: xs) = decide (0 < x) :: sgn xs := by
  rcases ne_cases h with h | h
  · rw [sgn_neg h, decide_eq_false (by omega)]
  · rw [sgn_pos h, decide_eq_true h]
theorem pos_mul {a b : Int} (ha : a ≠ 0) (hb : b ≠ 0) : decide (0 < a * b) = (decide (0 < a) == decide (0 < b)) := by
  rcases ne_cases ha with h | h <;> rcases ne_cases hb with k | k
  · have := nn h k; rw [decide_eq_true this, decide_eq_false (by omega), decide_eq_false (by omega)]; rfl
  · have := np h k; rw [decide_eq_false (by omega), decide_eq_false (by omega), decide_eq_true k]; rfl
  · have := pn h k; rw [decide_eq_false (by omega), decide_eq_true h, decide_eq_false (by omega)]; rfl
  · have := pp h k; rw [decide_eq_true this, decide_eq_true h, decide_eq_true k]; rfl
theorem pos_neg {a : Int} (ha : a ≠ 0) : decide (0 < -a) = !decide (0 < a) := by
  rcases ne_cases ha with h | h
  · rw [decide_eq_true (by omega), decide_eq_false (by omega)]; rfl
  · rw [decide_eq_false (by omega), decide_eq_true h]; rfl
theorem routhB : ∀ bm bf bs bK bN bq : Bool, (bq = true → bN = true) → (bq = true → bK = true) → (bN = true → (bf == bs) = true → bK = true) → (bN = false → (bf == bs) = false → bK = false) → (bm = true → bf = true → bs = true) → (bm = false → bf = false → bs = false) →
    (chg [true, !bs, (bm == bs) == bK, !(bf == bN)] : Int) = (if bm = true ∧ (bq = true ∨ bN = true) then 2 else if bq = false ∧ (bm = true ∨ bN = false) then 1 else 0) + (if bf = true then 1 else 0) := by decide
/- Routh -/
theorem routh {m f q : Int} (h1 : 2 * m + f ≠ 0) (h2 : m * (2 * m + f) * ((m + f) * (m + f) - q) ≠ 0) (h3 : f * (m * m - q) ≠ 0) :
    (sc [1, -(2 * m + f), m * (2 * m + f) * ((m + f) * (m + f) - q), -(f * (m * m - q))] : Int) =
      (if m > 0 ∧ (q < 0 ∨ m * m > q) then 2 else if q ≥ 0 ∧ (m > 0 ∨ m * m < q) then 1 else 0) + (if f > 0 then 1 else 0) := by
  have hm : m ≠ 0 := fun e => h2 (by subst e; simp)
  have hK : (m + f) * (m + f) - q ≠ 0 := fun e => h2 (by rw [e]; simp)
  have hf : f ≠ 0 := fun e => h3 (by subst e; simp)
  have hq : m * m - q ≠ 0 := fun e => h3 (by rw [e]; simp)
  have e3 : q < 0 → m * m - q > 0 := fun h => by have := sq0 m; omega
  have e4 : q < 0 → (m + f) * (m + f) - q > 0 := fun h => by have := sq0 (m + f); omega
  have rel : (m + f) * (m + f) - q = (m * m - q) + f * (2 * m + f) := by grind
  have hms : m * (2 * m + f) ≠ 0 := fun e => h2 (by rw [e]; simp)
  have pfs := pos_mul hf h1
  have B := routhB (decide (0 < m)) (decide (0 < f)) (decide (0 < 2 * m + f)) (decide (0 < (m + f) * (m + f) - q)) (decide (0 < m * m - q)) (decide (q < 0))
    (by simp only [decide_eq_true_eq]; exact e3) (by simp only [decide_eq_true_eq]; exact e4) (fun a b => by rw [← pfs] at b; simp only [decide_eq_true_eq] at *; omega) (fun a b => by rw [← pfs] at b; simp only [decide_eq_false_iff_not] at *; omega)
    (by simp only [decide_eq_true_eq]; omega) (by simp only [decide_eq_false_iff_not]; omega)
  unfold sc
  rw [sgn_nz (by decide), sgn_nz (by omega), sgn_nz h2, sgn_nz (by omega), sgn_nil, pos_neg h1, pos_mul hms hK, pos_mul hm h1, pos_neg h3, pos_mul hf hq]
  simp only [decide_eq_true_eq, decide_eq_false_iff_not] at B
  rw [show decide ((0 : Int) < 1) = true from rfl, B]
  have i1 : (0 < m ∧ (q < 0 ∨ 0 < m * m - q)) ↔ (m > 0 ∧ (q < 0 ∨ m * m > q)) := by omega
  have i2 : (¬ q < 0 ∧ (0 < m ∨ ¬ 0 < m * m - q)) ↔ (q ≥ 0 ∧ (m > 0 ∨ m * m < q)) := by omega
  simp only [i1, i2]
end Mine
end

/- part PN -/
section
set_option maxRecDepth 100000
namespace Mine
theorem s0 {x : Int} : sg1 x = 0 ↔ x = 0 := by
  unfold sg1; constructor
  · intro h; by_cases q : x = 0
    · exact q
    · rw [if_neg q] at h; split at h <;> simp at h
  · intro h; rw [if_pos h]
theorem s1 {x : Int} : sg1 x = 1 ↔ x < 0 := by
  unfold sg1; constructor
  · intro h; by_cases q : x = 0
    · rw [if_pos q] at h; simp at h
    · rw [if_neg q] at h; split at h
      · assumption
      · simp at h
  · intro h; rw [if_neg (by omega), if_pos h]
theorem s2 {x : Int} : sg1 x = 2 ↔ 0 < x := by
  unfold sg1; constructor
  · intro h; by_cases q : x = 0
    · rw [if_pos q] at h; simp at h
    · rw [if_neg q] at h; split at h
      · simp at h
      · omega
  · intro h; rw [if_neg (by omega), if_neg (by omega)]
noncomputable abbrev gg (y t q : Int) : Int := (y - t) * (y * y - q)
noncomputable abbrev g1 (y t q : Int) : Int := 3 * (y * y) - 2 * (t * y) - q
noncomputable abbrev rr (y t q : Int) : Int := (t * t + 3 * q) * y - 4 * (t * q)
theorem id1 (y t q : Int) : 9 * gg y t q = (3 * y - t) * g1 y t q - 2 * rr y t q := by unfold gg g1 rr; grind
theorem g1_split (y t q : Int) : g1 y t q = (y * y - q) + 2 * (y * (y - t)) := by unfold g1; grind
theorem negB : ∀ p b r : Fin 3, (p = 0 → b = 2) → (p = 2 → b = 1 → r = 1) → (p = 1 → b = 1 → r = 2) → (p = 2 → b = 0 → r = 1) → (p = 1 → b = 0 → r = 2) →
    (p = 1 → chg (sgB [p, b, r, 1]) = 2) ∧ (p ≠ 1 → chg (sgB [p, b, r, 1]) = 1) ∧ (sgB [p, b, r, 1]).length ≠ 1 := by decide
theorem neg_g {y t q : Int} (hq : q < 0) : sg1 (gg y t q) = sg1 (y - t) := by
  have hQ : 0 < y * y - q := by have := sq0 y; omega
  rcases Int.lt_trichotomy (y - t) 0 with h | h | h
  · rw [s1.mpr h, s1.mpr (np h hQ)]
  · rw [s0.mpr h, s0.mpr (by unfold gg; rw [h]; simp)]
  · rw [s2.mpr h, s2.mpr (pp h hQ)]
/- no turn back beyond the root -/
theorem neg_r {y t q : Int} (hq : q < 0) (h : y > t) (hg : g1 y t q < 0) : rr y t q < 0 := by
  have hy : y < 0 := by
    by_cases c : y < 0
    · exact c
    · have e := g1_split y t q
      have := Int.mul_nonneg (show 0 ≤ y by omega) (show 0 ≤ y - t by omega)
      have := sq0 y
      omega
  have e : rr y t q = y * ((y - t - y) * (y - t - y)) + (-q) * y - 4 * ((y - t) * (-q)) := by unfold rr; grind
  have a1 : y * ((y - t - y) * (y - t - y)) ≤ 0 := Int.mul_nonpos_of_nonpos_of_nonneg (by omega) (sq0 _)
  have a2 : (-q) * y < 0 := pn (by omega) hy
  have a3 : 0 < (y - t) * (-q) := pp (by omega) (by omega)
  omega
theorem mir_g1 (y t q : Int) : g1 (-y) (-t) q = g1 y t q := by unfold g1; grind
theorem mir_rr (y t q : Int) : rr (-y) (-t) q = -rr y t q := by unfold rr; grind
theorem sturm_neg {y t q d : Int} (hq : q < 0) (hd : d < 0) : sc [gg y t q, g1 y t q, rr y t q, d] = (if y < t then 2 else 1) ∧ (sgn [gg y t q, g1 y t q, rr y t q, d]).length ≠ 1 := by
  have i1 := id1 y t q
  have B := negB (sg1 (y - t)) (sg1 (g1 y t q)) (sg1 (rr y t q))
    (fun h => by rw [s0] at h; rw [s2]; have e := g1_split y t q; have h' : y = t := by omega
                 have z : y * (y - t) = 0 := by rw [h]; simp
                 have := sq0 y; omega)
    (fun h k => by rw [s2] at h; rw [s1] at k ⊢; exact neg_r hq (by omega) k)
    (fun h k => by rw [s1] at h k; rw [s2]
                   have := neg_r (y := -y) (t := -t) hq (by omega) (by rw [mir_g1]; exact k)
                   rw [mir_rr] at this; omega)
    (fun h k => by rw [s2] at h; rw [s0] at k; rw [s1]
                   have hQ : 0 < y * y - q := by have := sq0 y; omega
                   have := pp h hQ
                   rw [k] at i1; simp only [Int.mul_zero] at i1; unfold gg at i1; omega)
    (fun h k => by rw [s1] at h; rw [s0] at k; rw [s2]
                   have hQ : 0 < y * y - q := by have := sq0 y; omega
                   have := np h hQ
                   rw [k] at i1; simp only [Int.mul_zero] at i1; unfold gg at i1; omega)
  have e : sgn [gg y t q, g1 y t q, rr y t q, d] = sgB [sg1 (y - t), sg1 (g1 y t q), sg1 (rr y t q), 1] := by
    unfold sgn; simp only [List.map_cons, List.map_nil, neg_g hq, s1.mpr hd]
  unfold sc
  rw [e]
  refine ⟨?_, B.2.2⟩
  by_cases h : y < t
  · rw [if_pos h]; exact B.1 (s1.mpr (by omega))
  · rw [if_neg h]; exact B.2.1 fun z => by rw [s1] at z; omega
end Mine
end

/- part PO -/
section
set_option maxRecDepth 100000
namespace Mine
theorem a0B : ∀ p b r : Fin 3, (p = 0 → b = 2) → b ≠ 1 → r ≠ 0 → (b = 0 → r = 2 → p = 1) → (b = 0 → r = 1 → p = 2) →
    (chg (sgB [p, b, r]) + (if p = 1 then 0 else 1) = if r = 2 then 1 else 2) ∧ (sgB [p, b, r]).length ≠ 1 := by decide
theorem sturm_a0 {y t q c : Int} (hq : q < 0) (hA : t * t + 3 * q = 0) (hc : sg1 c = sg1 t) : sc [gg y t q, g1 y t q, c] + (if y < t then 0 else 1) = (if 0 < t then 1 else 2) ∧ (sgn [gg y t q, g1 y t q, c]).length ≠ 1 := by
  have e3 : 3 * g1 y t q = (3 * y - t) * (3 * y - t) := by unfold g1; grind
  have i1 := id1 y t q
  have ht : t ≠ 0 := fun h => by subst h; omega
  have hr : rr y t q = -4 * (t * q) := by unfold rr; rw [hA]; grind
  have hz : g1 y t q = 0 → 9 * gg y t q = 8 * (t * q) := fun h => by rw [h, hr] at i1; omega
  have B := a0B (sg1 (y - t)) (sg1 (g1 y t q)) (sg1 t)
    (fun h => by rw [s0] at h; rw [s2]; have e := g1_split y t q
                 have z : y * (y - t) = 0 := by rw [h]; simp
                 have := sq0 y; omega)
    (fun h => by rw [s1] at h; have := sq0 (3 * y - t); omega)
    (fun h => by rw [s0] at h; exact ht h)
    (fun h k => by rw [s0] at h; rw [s2] at k
                   have a := hz h
                   have := pn k hq
                   rw [← neg_g hq, s1]; omega)
    (fun h k => by rw [s0] at h; rw [s1] at k
                   have a := hz h
                   have := nn k hq
                   rw [← neg_g hq, s2]; omega)
  have e : sgn [gg y t q, g1 y t q, c] = sgB [sg1 (y - t), sg1 (g1 y t q), sg1 t] := by
    unfold sgn; simp only [List.map_cons, List.map_nil, neg_g hq, hc]
  unfold sc
  rw [e]
  refine ⟨?_, B.2⟩
  have i2 : (sg1 (y - t) = 1) ↔ y < t := by rw [s1]; omega
  have i3 : (sg1 t = 2) ↔ 0 < t := s2
  have := B.1
  simp only [i2, i3] at this
  exact this
/- signs multiply -/
noncomputable def m3 (a b : Fin 3) : Fin 3 := if a = 0 ∨ b = 0 then 0 else if a = b then 2 else 1
theorem sg_mul (a b : Int) : sg1 (a * b) = m3 (sg1 a) (sg1 b) := by
  rcases Int.lt_trichotomy a 0 with h | h | h
  · rcases Int.lt_trichotomy b 0 with k | k | k
    · rw [s1.mpr h, s1.mpr k, s2.mpr (nn h k)]; rfl
    · rw [s1.mpr h, s0.mpr k, s0.mpr (by rw [k]; simp)]; rfl
    · rw [s1.mpr h, s2.mpr k, s1.mpr (np h k)]; rfl
  · rw [s0.mpr h, s0.mpr (by rw [h]; simp)]; rfl
  · rcases Int.lt_trichotomy b 0 with k | k | k
    · rw [s2.mpr h, s1.mpr k, s1.mpr (pn h k)]; rfl
    · rw [s2.mpr h, s0.mpr k, s0.mpr (by rw [k]; simp)]; rfl
    · rw [s2.mpr h, s2.mpr k, s2.mpr (pp h k)]; rfl
/- the sign of a sum, where the parts tell it -/
noncomputable def addOk (a b c : Fin 3) : Bool := if a = 0 then b == c else if b = 0 then a == c else if a = b then c == a else true
theorem sg_add {a b c : Int} (h : c = a + b) : addOk (sg1 a) (sg1 b) (sg1 c) = true := by
  rcases Int.lt_trichotomy a 0 with h1 | h1 | h1 <;> rcases Int.lt_trichotomy b 0 with k | k | k
  · rw [s1.mpr h1, s1.mpr k, s1.mpr (by omega)]; rfl
  · rw [s1.mpr h1, s0.mpr k, s1.mpr (by omega)]; rfl
  · rw [s1.mpr h1, s2.mpr k]; rfl
  · rw [s0.mpr h1, s1.mpr k, s1.mpr (by omega)]; rfl
  · rw [s0.mpr h1, s0.mpr k, s0.mpr (by omega)]; rfl
  · rw [s0.mpr h1, s2.mpr k, s2.mpr (by omega)]; rfl
  · rw [s2.mpr h1, s1.mpr k]; rfl
  · rw [s2.mpr h1, s0.mpr k, s2.mpr (by omega)]; rfl
  · rw [s2.mpr h1, s2.mpr k, s2.mpr (by omega)]; rfl
theorem sg_scale {k x : Int} (h : 0 < k) : sg1 (k * x) = sg1 x := by
  rw [sg_mul, s2.mpr h]
  generalize sg1 x = a
  revert a; decide
/- a triple or a double root -/
theorem twB : ∀ p u v w : Fin 3, p ≠ 0 → ¬(u = 0 ∧ v = 0) → addOk p u w = true → addOk u w v = true → addOk u p w = true → (p = 2 → u = 1 → True) →
    (chg (sgB [m3 (m3 p p) u, m3 p v, p]) + (if w ≠ 1 ∨ m3 p u ≠ 2 then 1 else 0) + (if w ≠ 1 ∧ m3 p u ≠ 1 then 1 else 0) = 2) ∧ (sgB [m3 (m3 p p) u, m3 p v, p]).length ≠ 1 ∧ sgB [m3 (m3 p p) u, m3 p v, p] ≠ [] := by decide
theorem sturm_tw {y t q : Int} (hq : 0 < q) (ht : t * t = q) (hy : y ≠ t) :
    sc [gg y t q, g1 y t q, rr y t q] + (if 0 ≤ y ∨ y * y ≤ q then 1 else 0) + (if 0 ≤ y ∧ y * y ≥ q then 1 else 0) = 2 ∧ (sgn [gg y t q, g1 y t q, rr y t q]).length ≠ 1 ∧ sgn [gg y t q, g1 y t q, rr y t q] ≠ [] := by
  have ht0 : t ≠ 0 := fun h => by subst h; omega
  have eg : gg y t q = (y - t) * (y - t) * (y + t) := by unfold gg; rw [← ht]; grind
  have e1 : g1 y t q = (y - t) * (3 * y + t) := by unfold g1; rw [← ht]; grind
  have er : rr y t q = (4 * (t * t)) * (y - t) := by unfold rr; rw [← ht]; grind
  have ek : y * y - q = (y - t) * (y + t) := by rw [← ht]; grind
  have w2 : sg1 (2 * y) = sg1 y := sg_scale (by decide)
  have B := twB (sg1 (y - t)) (sg1 (y + t)) (sg1 (3 * y + t)) (sg1 y)
    (fun h => by rw [s0] at h; omega)
    (fun h => by rw [s0, s0] at h; omega)
    (by rw [← w2]; exact sg_add (by omega))
    (by rw [← w2]; exact sg_add (by omega))
    (by rw [← w2]; exact sg_add (by omega)) (fun _ _ => trivial)
  have e : sgn [gg y t q, g1 y t q, rr y t q] = sgB [m3 (m3 (sg1 (y - t)) (sg1 (y - t))) (sg1 (y + t)), m3 (sg1 (y - t)) (sg1 (3 * y + t)), sg1 (y - t)] := by
    have hs : 0 < 4 * (t * t) := by omega
    unfold sgn
    simp only [List.map_cons, List.map_nil]
    rw [eg, e1, er, sg_mul ((y - t) * (y - t)), sg_mul (y - t) (y - t), sg_mul (y - t) (3 * y + t), sg_scale hs]
  unfold sc
  rw [e]
  refine ⟨?_, B.2⟩
  have k : sg1 (y * y - q) = m3 (sg1 (y - t)) (sg1 (y + t)) := by rw [ek, sg_mul]
  have i1 : (sg1 y ≠ 1 ∨ m3 (sg1 (y - t)) (sg1 (y + t)) ≠ 2) ↔ (0 ≤ y ∨ y * y ≤ q) := by rw [← k, Ne, Ne, s1, s2]; omega
  have i2 : (sg1 y ≠ 1 ∧ m3 (sg1 (y - t)) (sg1 (y + t)) ≠ 1) ↔ (0 ≤ y ∧ y * y ≥ q) := by rw [← k, Ne, Ne, s1, s1]; omega
  have := B.1
  simp only [i1, i2] at this
  exact this
theorem q0B : ∀ p w z : Fin 3, w ≠ 0 → addOk w p z = true → (w = 1 → p ≠ 2 → z = 1) → (w = 2 → p ≠ 1 → z = 2) →
    (chg (sgB [m3 p (m3 w w), m3 w z, w]) + (if p = 1 then 0 else 1) + (if w ≠ 1 then 1 else 0) = 2) ∧ (sgB [m3 p (m3 w w), m3 w z, w]).length ≠ 1 ∧ sgB [m3 p (m3 w w), m3 w z, w] ≠ [] := by decide
theorem sturm_q0 {y t : Int} (ht : t ≠ 0) (hy : y ≠ 0) :
    sc [gg y t 0, g1 y t 0, rr y t 0] + (if y < t then 0 else 1) + (if 0 ≤ y then 1 else 0) = 2 ∧ (sgn [gg y t 0, g1 y t 0, rr y t 0]).length ≠ 1 ∧ sgn [gg y t 0, g1 y t 0, rr y t 0] ≠ [] := by
  have eg : gg y t 0 = (y - t) * (y * y) := by unfold gg; grind
  have e1 : g1 y t 0 = y * (3 * y - 2 * t) := by unfold g1; grind
  have er : rr y t 0 = (t * t) * y := by unfold rr; grind
  have p2 : sg1 (2 * (y - t)) = sg1 (y - t) := sg_scale (by decide)
  have B := q0B (sg1 (y - t)) (sg1 y) (sg1 (3 * y - 2 * t)) (fun h => by rw [s0] at h; omega) (by rw [← p2]; exact sg_add (by omega))
    (fun a b => by rw [s1] at a ⊢; rw [Ne, s2] at b; omega) (fun a b => by rw [s2] at a ⊢; rw [Ne, s1] at b; omega)
  have e : sgn [gg y t 0, g1 y t 0, rr y t 0] = sgB [m3 (sg1 (y - t)) (m3 (sg1 y) (sg1 y)), m3 (sg1 y) (sg1 (3 * y - 2 * t)), sg1 y] := by
    have hs : 0 < t * t := by
      rcases ne_cases ht with h | h
      · exact nn h h
      · exact pp h h
    unfold sgn
    simp only [List.map_cons, List.map_nil]
    rw [eg, e1, er, sg_mul (y - t), sg_mul y y, sg_mul y (3 * y - 2 * t), sg_scale hs]
  unfold sc
  rw [e]
  refine ⟨?_, B.2⟩
  have i1 : (sg1 (y - t) = 1) ↔ y < t := by rw [s1]; omega
  have i2 : (sg1 y ≠ 1) ↔ 0 ≤ y := by rw [Ne, s1]; omega
  have := B.1
  simp only [i1, i2] at this
  exact this
theorem sturm_00 {y : Int} (hy : y ≠ 0) : sc [gg y 0 0, g1 y 0 0] + (if 0 ≤ y then 1 else 0) = 1 ∧ (sgn [gg y 0 0, g1 y 0 0]).length ≠ 1 ∧ sgn [gg y 0 0, g1 y 0 0] ≠ [] := by
  have eg : gg y 0 0 = y * (y * y) := by unfold gg; grind
  have e1 : g1 y 0 0 = 3 * (y * y) := by unfold g1; grind
  have h3 : 0 < y * y := by
    rcases ne_cases hy with h | h
    · exact nn h h
    · exact pp h h
  unfold sc
  rw [eg, e1]
  rcases ne_cases hy with h | h
  · rw [sgn_neg (np h h3), sgn_pos (by omega), sgn_nil, if_neg (by omega)]; decide
  · rw [sgn_pos (pp h h3), sgn_pos (by omega), sgn_nil, if_pos (by omega)]; decide
end Mine
end

/- part PP -/
section
set_option maxRecDepth 100000
set_option synthInstance.maxHeartbeats 2000000
set_option synthInstance.maxSize 10000
namespace Mine
theorem posB : ∀ p k w b e r : Fin 3, addOk k (m3 w p) b = true → addOk w p e = true → addOk (m3 p k) r (m3 e b) = true → ¬(p = 0 ∧ k = 0) → (w = 0 → k = 1) → (w = 1 → e ≠ 1 → b = 1) → (w = 2 → e ≠ 2 → b = 1) →
    (p = 1 → w = 1 → k = 2 → r = 1) → (p = 2 → w = 2 → k = 2 → r = 2) →
    (chg (sgB [m3 p k, b, r, 2]) + (if p = 1 then 0 else 1) + (if w ≠ 1 ∨ k ≠ 2 then 1 else 0) + (if w ≠ 1 ∧ k ≠ 1 then 1 else 0) = 3) ∧ (sgB [m3 p k, b, r, 2]).length ≠ 1 ∧ sgB [m3 p k, b, r, 2] ≠ [] := by decide +kernel
/- left of all roots -/
theorem left_r {y t q : Int} (hq : 0 < q) (h : y < t) (hy : y < 0) (hk : y * y - q > 0) : rr y t q < 0 := by
  by_cases ht : 0 ≤ t
  · have e : rr y t q = (t * t) * y + 3 * (q * y) - 4 * (t * q) := by unfold rr; grind
    have a1 : (t * t) * y ≤ 0 := Int.mul_nonpos_of_nonneg_of_nonpos (sq0 t) (by omega)
    have a2 : q * y < 0 := pn hq hy
    have a3 : 0 ≤ t * q := Int.mul_nonneg ht (by omega)
    omega
  · by_cases c : 4 * t - 3 * y ≤ 0
    · have e : rr y t q = -((-y) * ((t - y) * (t - 3 * y))) - (y * y - q) * (3 * y - 4 * t) := by unfold rr; grind
      have a1 : 0 < (-y) * ((t - y) * (t - 3 * y)) := pp (by omega) (pp (by omega) (by omega))
      have a2 : 0 ≤ (y * y - q) * (3 * y - 4 * t) := Int.mul_nonneg (by omega) (by omega)
      omega
    · have e : rr y t q = (t * t) * y - q * (4 * t - 3 * y) := by unfold rr; grind
      have a1 : (t * t) * y ≤ 0 := Int.mul_nonpos_of_nonneg_of_nonpos (sq0 t) (by omega)
      have a2 : 0 < q * (4 * t - 3 * y) := pp hq (by omega)
      omega
theorem turn_b {y t q : Int} (hq : 0 ≤ q) (h : y * (3 * y - t) ≤ 0) (hy : y ≠ 0) : g1 y t q < 0 := by
  have e : g1 y t q = 2 * (y * (3 * y - t)) - 3 * (y * y) - q := by unfold g1; grind
  have : 0 < y * y := by
    rcases ne_cases hy with h | h
    · exact nn h h
    · exact pp h h
  omega
theorem c_b1 {y t q : Int} (hq : 0 ≤ q) (h : sg1 y = 1) (k : sg1 (3 * y - t) ≠ 1) : sg1 (g1 y t q) = 1 := by
  rw [s1] at h ⊢; rw [Ne, s1] at k
  exact turn_b hq (Int.mul_nonpos_of_nonpos_of_nonneg (by omega) (by omega)) (by omega)
theorem c_b2 {y t q : Int} (hq : 0 ≤ q) (h : sg1 y = 2) (k : sg1 (3 * y - t) ≠ 2) : sg1 (g1 y t q) = 1 := by
  rw [s2] at h; rw [s1]; rw [Ne, s2] at k
  exact turn_b hq (Int.mul_nonpos_of_nonneg_of_nonpos (by omega) (by omega)) (by omega)
theorem c_add1 (y t q : Int) : addOk (sg1 (y * y - q)) (m3 (sg1 y) (sg1 (y - t))) (sg1 (g1 y t q)) = true := by
  rw [← sg_mul, ← sg_scale (k := 2) (x := y * (y - t)) (by decide)]
  exact sg_add (g1_split y t q)
theorem c_add2 (y t : Int) : addOk (sg1 y) (sg1 (y - t)) (sg1 (3 * y - t)) = true := by
  rw [← sg_scale (k := 2) (x := y) (by decide)]
  exact sg_add (by omega)
theorem sturm_pos {y t q d : Int} (hq : 0 < q) (ht : t * t ≠ q) (hd : 0 < d) :
    sc [gg y t q, g1 y t q, rr y t q, d] + (if y < t then 0 else 1) + (if 0 ≤ y ∨ y * y ≤ q then 1 else 0) + (if 0 ≤ y ∧ y * y ≥ q then 1 else 0) = 3 ∧ (sgn [gg y t q, g1 y t q, rr y t q, d]).length ≠ 1 ∧ sgn [gg y t q, g1 y t q, rr y t q, d] ≠ [] := by
  have B := posB (sg1 (y - t)) (sg1 (y * y - q)) (sg1 y) (sg1 (g1 y t q)) (sg1 (3 * y - t)) (sg1 (rr y t q))
    (c_add1 y t q) (c_add2 y t)
    (by rw [← sg_mul, ← sg_mul, ← sg_scale (k := 9) (x := (y - t) * (y * y - q)) (by decide), ← sg_scale (k := 2) (x := rr y t q) (by decide)]
        exact sg_add (by have := id1 y t q; unfold gg at this; omega))
    (fun h => by rw [s0, s0] at h; exact ht (by have : y = t := by omega
                                                subst this; omega))
    (fun h => by rw [s0] at h; rw [s1]; subst h; omega)
    (c_b1 (by omega)) (c_b2 (by omega))
    (fun h1 h2 h3 => by rw [s1] at h1 h2 ⊢; rw [s2] at h3; exact left_r hq (by omega) h2 h3)
    (fun h1 h2 h3 => by
      rw [s2] at h1 h2 h3 ⊢
      have := left_r (y := -y) (t := -t) hq (by omega) (by omega) (by rw [Int.neg_mul_neg]; exact h3)
      rw [mir_rr] at this; omega)
  have e : sgn [gg y t q, g1 y t q, rr y t q, d] = sgB [m3 (sg1 (y - t)) (sg1 (y * y - q)), sg1 (g1 y t q), sg1 (rr y t q), 2] := by
    unfold sgn; simp only [List.map_cons, List.map_nil, s2.mpr hd]; rw [sg_mul]
  unfold sc
  rw [e]
  refine ⟨?_, B.2⟩
  have i0 : (sg1 (y - t) = 1) ↔ y < t := by rw [s1]; omega
  have i1 : (sg1 y ≠ 1 ∨ sg1 (y * y - q) ≠ 2) ↔ (0 ≤ y ∨ y * y ≤ q) := by rw [Ne, Ne, s1, s2]; omega
  have i2 : (sg1 y ≠ 1 ∧ sg1 (y * y - q) ≠ 1) ↔ (0 ≤ y ∧ y * y ≥ q) := by rw [Ne, Ne, s1, s1]; omega
  have := B.1
  simp only [i0, i1, i2] at this
  exact this
/- Budan's count, all roots real -/
theorem budB : ∀ p k w b e : Fin 3, addOk k (m3 w p) b = true → addOk w p e = true → (w = 1 → e ≠ 1 → b = 1) → (w = 2 → e ≠ 2 → b = 1) → (w = 0 → k ≠ 2) →
    chg (sgB [m3 p k, b, e, 2]) + (if p = 1 then 0 else 1) + (if w ≠ 1 ∨ k ≠ 2 then 1 else 0) + (if w ≠ 1 ∧ k ≠ 1 then 1 else 0) = 3 := by decide +kernel
theorem budan_pos {y t q d : Int} (hq : 0 ≤ q) (hd : 0 < d) :
    sc [gg y t q, g1 y t q, 3 * y - t, d] + (if y < t then 0 else 1) + (if 0 ≤ y ∨ y * y ≤ q then 1 else 0) + (if 0 ≤ y ∧ y * y ≥ q then 1 else 0) = 3 := by
  have B := budB (sg1 (y - t)) (sg1 (y * y - q)) (sg1 y) (sg1 (g1 y t q)) (sg1 (3 * y - t)) (c_add1 y t q) (c_add2 y t) (c_b1 hq) (c_b2 hq)
    (fun h => by rw [s0] at h; rw [Ne, s2]; subst h; omega)
  have e : sgn [gg y t q, g1 y t q, 3 * y - t, d] = sgB [m3 (sg1 (y - t)) (sg1 (y * y - q)), sg1 (g1 y t q), sg1 (3 * y - t), 2] := by
    unfold sgn; simp only [List.map_cons, List.map_nil, s2.mpr hd]; rw [sg_mul]
  unfold sc
  rw [e]
  have i0 : (sg1 (y - t) = 1) ↔ y < t := by rw [s1]; omega
  have i1 : (sg1 y ≠ 1 ∨ sg1 (y * y - q) ≠ 2) ↔ (0 ≤ y ∨ y * y ≤ q) := by rw [Ne, Ne, s1, s2]; omega
  have i2 : (sg1 y ≠ 1 ∧ sg1 (y * y - q) ≠ 1) ↔ (0 ≤ y ∧ y * y ≥ q) := by rw [Ne, Ne, s1, s1]; omega
  simp only [i0, i1, i2] at B
  exact B
/- and with one root alone -/
theorem budN : ∀ p b e : Fin 3, (p = 0 → b = 2) → (3 - chg (sgB [p, b, e, 2]) - (if p = 1 then 0 else 1) = 0 ∨ 3 - chg (sgB [p, b, e, 2]) - (if p = 1 then 0 else 1) = 2) ∧ chg (sgB [p, b, e, 2]) + (if p = 1 then 0 else 1) ≤ 3 ∧
    ((3 - chg (sgB [p, b, e, 2]) - (if p = 1 then 0 else 1) = 0) ↔ (p = 1 ∧ b = 2 ∧ e = 1) ∨ (p ≠ 1 ∧ ¬(b ≠ 1 ∧ e ≠ 1))) := by decide +kernel
end Mine
end

/- part PQ -/
section
set_option maxRecDepth 100000
set_option synthInstance.maxHeartbeats 2000000
set_option synthInstance.maxSize 10000
namespace Mine
noncomputable def gapZ (y t q : Int) : Prop := (y < t ∧ 0 < g1 y t q ∧ 3 * y < t) ∨ (t ≤ y ∧ (g1 y t q < 0 ∨ 3 * y < t))
/- one root alone: two roots fewer from some spot on -/
theorem gapZ_down {y z t q : Int} (hq : q < 0) (h : y ≤ z) (k : gapZ z t q) : gapZ y t q := by
  have e : g1 z t q - g1 y t q = (z - y) * (3 * z + 3 * y - 2 * t) := by unfold g1; grind
  rcases k with ⟨k1, k2, k3⟩ | ⟨k1, k2⟩
  · have : (z - y) * (3 * z + 3 * y - 2 * t) ≤ 0 := Int.mul_nonpos_of_nonneg_of_nonpos (by omega) (by omega)
    exact .inl ⟨by omega, by omega, by omega⟩
  · by_cases ht : 0 ≤ t
    · have a := g1_split z t q
      have b : 0 ≤ z * (z - t) := Int.mul_nonneg (by omega) (by omega)
      have c := sq0 z
      rcases k2 with k2 | k2 <;> omega
    · by_cases c : y < t
      · have a := g1_split y t q
        have b : 0 < y * (y - t) := nn (by omega) (by omega)
        have c := sq0 y
        exact .inl ⟨by omega, by omega, by omega⟩
      · by_cases d : 3 * y < t
        · exact .inr ⟨by omega, .inr d⟩
        · have : 0 ≤ (z - y) * (3 * z + 3 * y - 2 * t) := Int.mul_nonneg (by omega) (by omega)
          exact .inr ⟨by omega, .inl (by omega)⟩
theorem budan_neg {y t q d : Int} (hq : q < 0) (hd : 0 < d) :
    ((gapZ y t q ∧ sc [gg y t q, g1 y t q, 3 * y - t, d] + (if y < t then 0 else 1) = 3) ∨ (¬ gapZ y t q ∧ sc [gg y t q, g1 y t q, 3 * y - t, d] + (if y < t then 0 else 1) = 1)) := by
  have B := budN (sg1 (y - t)) (sg1 (g1 y t q)) (sg1 (3 * y - t)) (fun h => by
    rw [s0] at h; rw [s2]; have e := g1_split y t q
    have z : y * (y - t) = 0 := by rw [h]; simp
    have := sq0 y; omega)
  have e : sgn [gg y t q, g1 y t q, 3 * y - t, d] = sgB [sg1 (y - t), sg1 (g1 y t q), sg1 (3 * y - t), 2] := by
    unfold sgn; simp only [List.map_cons, List.map_nil, s2.mpr hd, neg_g hq]
  unfold sc
  rw [e]
  generalize chg (sgB [sg1 (y - t), sg1 (g1 y t q), sg1 (3 * y - t), 2]) = c at *
  have i : (sg1 (y - t) = 1) ↔ y < t := by rw [s1]; omega
  have j : ((sg1 (y - t) = 1 ∧ sg1 (g1 y t q) = 2 ∧ sg1 (3 * y - t) = 1) ∨ (sg1 (y - t) ≠ 1 ∧ ¬(sg1 (g1 y t q) ≠ 1 ∧ sg1 (3 * y - t) ≠ 1))) ↔ gapZ y t q := by
    unfold gapZ; rw [Ne, Ne, Ne, s1, s2, s1, s1]; omega
  rw [j] at B
  simp only [i] at B
  refine bC fun z_ => ?_
  (obtain ⟨B1, B2, B3⟩ := B) <;> refine z_ ?_ <;> clear z_
  have B4 : 3 - c - (if y < t then 0 else 1) = 0 ∨ 3 - c - (if y < t then 0 else 1) = 2 := B1
  have B5 : c + (if y < t then 0 else 1) ≤ 3 := B2
  have B6 : 3 - c - (if y < t then 0 else 1) = 0 ↔ gapZ y t q := B3
  clear B1 B2 B3 i j e
  generalize (if y < t then 0 else 1 : Nat) = m at *
  by_cases hz : gapZ y t q
  · have := B6.mpr hz; exact .inl ⟨hz, by omega⟩
  · have := mt B6.mp hz; exact .inr ⟨hz, by omega⟩
end Mine
end

/- part PR -/
section
set_option maxRecDepth 100000
namespace Mine
noncomputable def Lc0 (L f m q : Int) : Int := -L * f * (m * m - q)
noncomputable def Lc1 (L f m q : Int) : Int := L * (m * m - q + 2 * f * m)
noncomputable def Lc2 (L f m : Int) : Int := -L * (2 * m + f)
noncomputable def W3 (c0 c1 c2 c3 : Int) : P4 := ⟨[(3, c3), (2, c2), (1, c1), (0, c0)], c0, c1, c2, c3⟩
noncomputable def W2 (c0 c1 c2 c3 : Int) : P4 := ⟨[(2, 3 * c3), (1, 2 * c2), (0, c1)], c1, 2 * c2, 3 * c3, 0⟩
noncomputable def E1 (e0 e1 : Int) : P4 := ⟨[(3, 0), (2, 0), (1, e1), (0, e0)], e0, e1, 0, 0⟩
noncomputable def V0 (v : Int) : P4 := ⟨[(2, 0), (1, 0), (0, v), (3, 0)], v, 0, 0, 0⟩
theorem less1 (L m : Int) : lessP ⟨[(0, L)], L, 0, 0, 0⟩ m = ⟨[(1, L), (0, -m * L)], -m * L, L, 0, 0⟩ := by
  refine Eq.trans (b := ⟨[(1, 1 * L), (0, -m * 1 * L)], -m * 1 * L + 0, -m * 1 * 0 + 1 * L, -m * 1 * 0 + 0, -m * 1 * 0 + 0⟩) rfl ?_
  rw [Int.mul_zero, Int.mul_one, Int.one_mul, Int.add_zero, Int.zero_add]; rfl
theorem less2 (a b m : Int) : lessP ⟨[(1, b), (0, a)], a, b, 0, 0⟩ m = ⟨[(2, b), (1, a + -m * b), (0, -m * a)], -m * a, a + -m * b, b, 0⟩ := by
  refine Eq.trans (b := ⟨[(2, 1 * b), (1, 1 * a + -m * 1 * b), (0, -m * 1 * a)], -m * 1 * a + 0, -m * 1 * b + 1 * a, -m * 1 * 0 + 1 * b, -m * 1 * 0 + 0⟩) rfl ?_
  rw [Int.mul_zero, Int.mul_one, Int.one_mul, Int.one_mul, Int.add_zero, Int.zero_add, Int.add_comm (-m * b)]; rfl
theorem less3 (a b c m : Int) : lessP ⟨[(2, c), (1, b), (0, a)], a, b, c, 0⟩ m = ⟨[(3, c), (2, b + -m * c), (1, a + -m * b), (0, -m * a)], -m * a, a + -m * b, b + -m * c, c⟩ := by
  refine Eq.trans (b := ⟨[(3, 1 * c), (2, 1 * b + -m * 1 * c), (1, 1 * a + -m * 1 * b), (0, -m * 1 * a)], -m * 1 * a + 0, -m * 1 * b + 1 * a, -m * 1 * c + 1 * b, -m * 1 * 0 + 1 * c⟩) rfl ?_
  rw [Int.mul_zero, Int.mul_one, Int.one_mul, Int.one_mul, Int.one_mul, Int.add_zero, Int.zero_add, Int.add_comm (-m * b), Int.add_comm (-m * c)]
theorem whole_eq (L f m q : Int) : lessP (addP (lessP (lessP ⟨[(0, L)], L, 0, 0, 0⟩ m) m) (timesP (-q) 0 ⟨[(0, L)], L, 0, 0, 0⟩)) f = W3 (Lc0 L f m q) (Lc1 L f m q) (Lc2 L f m) L := by
  have e : addP (lessP (lessP ⟨[(0, L)], L, 0, 0, 0⟩ m) m) (timesP (-q) 0 ⟨[(0, L)], L, 0, 0, 0⟩) = ⟨[(2, L), (1, -m * L + -m * L), (0, -m * (-m * L) + -q * L)], -m * (-m * L) + -q * L, -m * L + -m * L, L, 0⟩ := by
    rw [less1, less2]
    refine Eq.trans (b := ⟨[(2, L), (1, -m * L + -m * L), (0, -m * (-m * L) + -q * 1 * L)], -q * 1 * L + -m * (-m * L), -q * 1 * 0 + (-m * L + -m * L), -q * 1 * 0 + L, -q * 1 * 0 + 0⟩) rfl ?_
    rw [Int.mul_zero, Int.mul_one, Int.zero_add, Int.zero_add, Int.add_comm (-q * L)]; rfl
  rw [e, less3]
  unfold W3
  rw [show -f * (-m * (-m * L) + -q * L) = Lc0 L f m q by unfold Lc0; grind, show -m * (-m * L) + -q * L + -f * (-m * L + -m * L) = Lc1 L f m q by unfold Lc1; grind, show -m * L + -m * L + -f * L = Lc2 L f m by unfold Lc2; grind]
theorem slope1 (c0 c1 c2 c3 : Int) : timesP 1 (-1) (W3 c0 c1 c2 c3) = W2 c0 c1 c2 c3 := by
  refine Eq.trans (b := ⟨[(2, 3 * c3), (1, 2 * c2), (0, 1 * c1)], 1 * c1, 2 * c2, 3 * c3, 0⟩) rfl ?_
  rw [Int.one_mul]; rfl
theorem slope2 (c0 c1 c2 c3 : Int) : timesP 1 (-1) (W2 c0 c1 c2 c3) = ⟨[(1, 6 * c3), (0, 2 * c2)], 2 * c2, 6 * c3, 0, 0⟩ := by
  refine Eq.trans (b := ⟨[(1, 2 * (3 * c3)), (0, 1 * (2 * c2))], 1 * (2 * c2), 2 * (3 * c3), 0, 0⟩) rfl ?_
  rw [Int.one_mul, ← Int.mul_assoc]; rfl
theorem slope3 (a b : Int) : timesP 1 (-1) ⟨[(1, b), (0, a)], a, b, 0, 0⟩ = ⟨[(0, b)], b, 0, 0, 0⟩ := by
  refine Eq.trans (b := ⟨[(0, 1 * b)], 1 * b, 0, 0, 0⟩) rfl ?_
  rw [Int.one_mul]
/- the first two eliminations -/
theorem sg_abs {s a : Int} (hs : s = 1 ∧ 0 < a ∨ s = -1 ∧ a < 0) : (a.natAbs : Int) = s * a ∧ ∀ x : Int, (if a > 0 then -x else x) = -(s * x) := by
  rcases hs with ⟨rfl, k⟩ | ⟨rfl, k⟩
  · exact ⟨(Int.natAbs_of_nonneg (Int.le_of_lt k)).trans (Int.one_mul a).symm, fun x => (if_pos k).trans (congrArg (- ·) (Int.one_mul x).symm)⟩
  · exact ⟨(Int.ofNat_natAbs_of_nonpos (Int.le_of_lt k)).trans (Int.neg_one_mul a).symm, fun x => (if_neg (Int.not_lt.mpr (Int.le_of_lt k))).trans (by rw [Int.neg_one_mul, Int.neg_neg])⟩
theorem el_eq {s : Int} {p q : P4} {low d : Int} (hd : degP p = d) (h : d ≥ low ∧ low > 0) (hs : s = 1 ∧ 0 < q.cf low ∨ s = -1 ∧ q.cf low < 0) : elimP p q low = addP (timesP (s * q.cf low) 0 p) (timesP (-(s * p.cf d)) (d - low) q) := by
  subst hd
  have e := sg_abs hs
  rw [← e.1, ← e.2]; exact if_pos h
theorem elim_a {c0 c1 c2 L : Int} (h : L ≠ 0) : ∃ s : Int, (s = 1 ∧ 0 < L ∨ s = -1 ∧ L < 0) ∧ elimP (W3 c0 c1 c2 L) (W2 c0 c1 c2 L) 2 = ⟨[(3, 0), (2, s * (L * c2)), (1, s * (2 * L * c1)), (0, s * (3 * L * c0))], s * (3 * L * c0), s * (2 * L * c1), s * (L * c2), 0⟩ := by
  have hd : degP (W3 c0 c1 c2 L) = 3 := if_pos h
  have key : ∀ s : Int, (s = 1 ∧ 0 < L ∨ s = -1 ∧ L < 0) → elimP (W3 c0 c1 c2 L) (W2 c0 c1 c2 L) 2 = ⟨[(3, 0), (2, s * (L * c2)), (1, s * (2 * L * c1)), (0, s * (3 * L * c0))], s * (3 * L * c0), s * (2 * L * c1), s * (L * c2), 0⟩ := fun s hs => by
    refine (el_eq (s := s) hd (by decide) (hs.imp (And.imp id fun k => Int.mul_pos (by decide) k) (And.imp id fun k => Int.mul_neg_of_pos_of_neg (by decide) k))).trans ?_
    refine Eq.trans (b := ⟨[(3, s * (3 * L) * 1 * L + -(s * L) * 1 * (3 * L)), (2, s * (3 * L) * 1 * c2 + -(s * L) * 1 * (2 * c2)), (1, s * (3 * L) * 1 * c1 + -(s * L) * 1 * c1), (0, s * (3 * L) * 1 * c0)], 0 + s * (3 * L) * 1 * c0, -(s * L) * 1 * c1 + s * (3 * L) * 1 * c1, -(s * L) * 1 * (2 * c2) + s * (3 * L) * 1 * c2, -(s * L) * 1 * (3 * L) + s * (3 * L) * 1 * L⟩) rfl ?_
    rw [Int.add_comm (-(s * L) * 1 * c1), Int.add_comm (-(s * L) * 1 * (2 * c2)), Int.add_comm (-(s * L) * 1 * (3 * L)), Int.zero_add, show s * (3 * L) * 1 * L + -(s * L) * 1 * (3 * L) = 0 by grind, show s * (3 * L) * 1 * c2 + -(s * L) * 1 * (2 * c2) = s * (L * c2) by grind, show s * (3 * L) * 1 * c1 + -(s * L) * 1 * c1 = s * (2 * L * c1) by grind, show s * (3 * L) * 1 * c0 = s * (3 * L * c0) by grind]
  rcases ne_cases h with k | k
  · exact ⟨-1, .inr ⟨rfl, k⟩, key _ (.inr ⟨rfl, k⟩)⟩
  · exact ⟨1, .inl ⟨rfl, k⟩, key _ (.inl ⟨rfl, k⟩)⟩
end Mine
end

/- part PS -/
section
set_option maxRecDepth 100000
namespace Mine
theorem deg_W2 {c0 c1 c2 L : Int} (h : L ≠ 0) : degP (W2 c0 c1 c2 L) = 2 := if_pos (show 3 * L ≠ 0 from fun e => h (by omega))
theorem elim_b {c0 c1 c2 L s a0 a1 a2 : Int} (hs : s = 1 ∧ 0 < L ∨ s = -1 ∧ L < 0) (h2 : a2 ≠ 0) :
    elimP ⟨[(3, 0), (2, a2), (1, a1), (0, a0)], a0, a1, a2, 0⟩ (W2 c0 c1 c2 L) 2 = E1 (s * (3 * L * a0 - a2 * c1)) (s * (3 * L * a1 - a2 * (2 * c2))) := by
  have hd : degP ⟨[(3, 0), (2, a2), (1, a1), (0, a0)], a0, a1, a2, 0⟩ = 2 := if_pos h2
  refine (el_eq (s := s) hd (by decide) (hs.imp (And.imp id fun k => Int.mul_pos (by decide) k) (And.imp id fun k => Int.mul_neg_of_pos_of_neg (by decide) k))).trans ?_
  refine Eq.trans (b := ⟨[(3, s * (3 * L) * 1 * 0), (2, s * (3 * L) * 1 * a2 + -(s * a2) * 1 * (3 * L)), (1, s * (3 * L) * 1 * a1 + -(s * a2) * 1 * (2 * c2)), (0, s * (3 * L) * 1 * a0 + -(s * a2) * 1 * c1)], -(s * a2) * 1 * c1 + s * (3 * L) * 1 * a0, -(s * a2) * 1 * (2 * c2) + s * (3 * L) * 1 * a1, -(s * a2) * 1 * (3 * L) + s * (3 * L) * 1 * a2, -(s * a2) * 1 * 0 + s * (3 * L) * 1 * 0⟩) rfl ?_
  rw [Int.mul_zero, Int.mul_zero, Int.add_comm (-(s * a2) * 1 * c1), Int.add_comm (-(s * a2) * 1 * (2 * c2)), Int.add_comm (-(s * a2) * 1 * (3 * L)), show s * (3 * L) * 1 * a2 + -(s * a2) * 1 * (3 * L) = 0 by grind, show s * (3 * L) * 1 * a1 + -(s * a2) * 1 * (2 * c2) = s * (3 * L * a1 - a2 * (2 * c2)) by grind, show s * (3 * L) * 1 * a0 + -(s * a2) * 1 * c1 = s * (3 * L * a0 - a2 * c1) by grind]
  rfl
theorem elim_c {q : P4} {a0 a1 : Int} : elimP ⟨[(3, 0), (2, 0), (1, a1), (0, a0)], a0, a1, 0, 0⟩ q 2 = E1 a0 a1 := by
  have hd : degP ⟨[(3, 0), (2, 0), (1, a1), (0, a0)], a0, a1, 0, 0⟩ < 2 := by
    simp only [degP, deg]; repeat' split
    all_goals omega
  unfold elimP
  rw [if_neg (by omega)]; rfl
theorem neg_E1 (e0 e1 : Int) : timesP (-1) 0 (E1 e0 e1) = E1 (-e0) (-e1) := by
  refine Eq.trans (b := ⟨[(3, 0), (2, 0), (1, -1 * e1), (0, -1 * e0)], -1 * e0, -1 * e1, 0, 0⟩) rfl ?_
  rw [Int.neg_one_mul, Int.neg_one_mul]; rfl
theorem neg_V0 (v : Int) : timesP (-1) 0 (V0 v) = V0 (-v) := by
  refine Eq.trans (b := ⟨[(2, 0), (1, 0), (0, -1 * v), (3, 0)], -1 * v, 0, 0, 0⟩) rfl ?_
  rw [Int.neg_one_mul]; rfl
/- the slope less multiples of the third -/
theorem elim_d {c0 c1 c2 L e0 e1 : Int} (hL : L ≠ 0) (h : e1 ≠ 0) : ∃ s : Int, (s = 1 ∧ 0 < e1 ∨ s = -1 ∧ e1 < 0) ∧
    elimP (W2 c0 c1 c2 L) (E1 e0 e1) 1 = ⟨[(2, 0), (1, s * (2 * c2 * e1 - 3 * L * e0)), (0, s * (e1 * c1)), (3, 0)], s * (e1 * c1), s * (2 * c2 * e1 - 3 * L * e0), 0, 0⟩ := by
  have key : ∀ s : Int, (s = 1 ∧ 0 < e1 ∨ s = -1 ∧ e1 < 0) → elimP (W2 c0 c1 c2 L) (E1 e0 e1) 1 = ⟨[(2, 0), (1, s * (2 * c2 * e1 - 3 * L * e0)), (0, s * (e1 * c1)), (3, 0)], s * (e1 * c1), s * (2 * c2 * e1 - 3 * L * e0), 0, 0⟩ := fun s hs => by
    refine (el_eq (s := s) (q := E1 e0 e1) (low := 1) (deg_W2 hL) (by decide) hs).trans ?_
    refine Eq.trans (b := ⟨[(2, s * e1 * 1 * (3 * L) + -(s * (3 * L)) * 1 * e1), (1, s * e1 * 1 * (2 * c2) + -(s * (3 * L)) * 1 * e0), (0, s * e1 * 1 * c1), (3, -(s * (3 * L)) * 1 * 0)], 0 + s * e1 * 1 * c1, -(s * (3 * L)) * 1 * e0 + s * e1 * 1 * (2 * c2), -(s * (3 * L)) * 1 * e1 + s * e1 * 1 * (3 * L), -(s * (3 * L)) * 1 * 0 + s * e1 * 1 * 0⟩) rfl ?_
    rw [Int.mul_zero, Int.mul_zero, Int.zero_add, Int.add_comm (-(s * (3 * L)) * 1 * e0), Int.add_comm (-(s * (3 * L)) * 1 * e1), show s * e1 * 1 * (3 * L) + -(s * (3 * L)) * 1 * e1 = 0 by grind, show s * e1 * 1 * (2 * c2) + -(s * (3 * L)) * 1 * e0 = s * (2 * c2 * e1 - 3 * L * e0) by grind, show s * e1 * 1 * c1 = s * (e1 * c1) by grind]
    rfl
  rcases ne_cases h with k | k
  · exact ⟨-1, .inr ⟨rfl, k⟩, key _ (.inr ⟨rfl, k⟩)⟩
  · exact ⟨1, .inl ⟨rfl, k⟩, key _ (.inl ⟨rfl, k⟩)⟩
theorem elim_e {s e0 e1 a0 a1 : Int} (hs : s = 1 ∧ 0 < e1 ∨ s = -1 ∧ e1 < 0) (h : a1 ≠ 0) :
    elimP ⟨[(2, 0), (1, a1), (0, a0), (3, 0)], a0, a1, 0, 0⟩ (E1 e0 e1) 1 = V0 (s * (e1 * a0 - a1 * e0)) := by
  have hd : degP ⟨[(2, 0), (1, a1), (0, a0), (3, 0)], a0, a1, 0, 0⟩ = 1 := if_pos h
  refine (el_eq (s := s) (q := E1 e0 e1) (low := 1) hd (by decide) hs).trans ?_
  refine Eq.trans (b := ⟨[(2, s * e1 * 1 * 0 + -(s * a1) * 1 * 0), (1, s * e1 * 1 * a1 + -(s * a1) * 1 * e1), (0, s * e1 * 1 * a0 + -(s * a1) * 1 * e0), (3, s * e1 * 1 * 0 + -(s * a1) * 1 * 0)], -(s * a1) * 1 * e0 + s * e1 * 1 * a0, -(s * a1) * 1 * e1 + s * e1 * 1 * a1, -(s * a1) * 1 * 0 + s * e1 * 1 * 0, -(s * a1) * 1 * 0 + s * e1 * 1 * 0⟩) rfl ?_
  rw [Int.mul_zero, Int.mul_zero, Int.add_comm (-(s * a1) * 1 * e0), Int.add_comm (-(s * a1) * 1 * e1), show s * e1 * 1 * a1 + -(s * a1) * 1 * e1 = 0 by grind, show s * e1 * 1 * a0 + -(s * a1) * 1 * e0 = s * (e1 * a0 - a1 * e0) by grind]
  rfl
theorem elim_f {q : P4} {a0 : Int} : elimP ⟨[(2, 0), (1, 0), (0, a0), (3, 0)], a0, 0, 0, 0⟩ q 1 = V0 a0 := by
  have hd : degP ⟨[(2, 0), (1, 0), (0, a0), (3, 0)], a0, 0, 0, 0⟩ < 1 := by
    simp only [degP, deg]; repeat' split
    all_goals omega
  unfold elimP
  rw [if_neg (by omega)]; rfl
end Mine
end

/- part PT -/
section
set_option maxRecDepth 100000
namespace Mine
noncomputable def rA (t q : Int) : Int := t * t + 3 * q
theorem rr_eq (y t q : Int) : rr y t q = rA t q * y - 4 * (t * q) := by unfold rr rA; grind
theorem chain_2 {L f m q : Int} (hL : L ≠ 0) : ∃ e0 e1 k1 k2 : Int, 0 < k1 ∧ 0 < k2 ∧
    timesP (-1) 0 (elimP (elimP (W3 (Lc0 L f m q) (Lc1 L f m q) (Lc2 L f m) L) (W2 (Lc0 L f m q) (Lc1 L f m q) (Lc2 L f m) L) 2) (W2 (Lc0 L f m q) (Lc1 L f m q) (Lc2 L f m) L) 2) = E1 e0 e1 ∧
    k1 * e1 = k2 * (L * rA (f - m) q) ∧ k1 * e0 = k2 * (L * (-(rA (f - m) q * m) - 4 * ((f - m) * q))) := by
  refine bC fun z_ => ?_
  (obtain ⟨s, hs, e⟩ := elim_a (c0 := Lc0 L f m q) (c1 := Lc1 L f m q) (c2 := Lc2 L f m) hL) <;> refine z_ ?_ <;> clear z_
  rw [e]
  have hs0 : s ≠ 0 := by omega
  have hss : s * s = 1 := by rcases hs with ⟨rfl, _⟩ | ⟨rfl, _⟩ <;> rfl
  by_cases hc : Lc2 L f m = 0
  · have hf : f = -2 * m := by
      unfold Lc2 at hc
      rcases Int.mul_eq_zero.mp hc with h | h <;> omega
    rw [hc, Int.mul_zero, Int.mul_zero, elim_c, neg_E1]
    refine ⟨_, _, 3, 2 * (s * L), by decide, ?_, rfl, ?_, ?_⟩
    · rcases hs with ⟨rfl, _⟩ | ⟨rfl, _⟩ <;> omega
    · subst hf; unfold Lc1 rA; grind
    · subst hf; unfold Lc0 rA; grind
  · rw [elim_b hs (by intro h; rcases Int.mul_eq_zero.mp h with h | h; exact hs0 h; rcases Int.mul_eq_zero.mp h with h | h; exact hL h; exact hc h), neg_E1]
    have h2 : 0 < L * L := by
      rcases ne_cases hL with h | h
      · exact nn h h
      · exact pp h h
    refine ⟨_, _, 1, 2 * (L * L), by decide, by omega, rfl, ?_, ?_⟩
    · have : s * (3 * L * (s * (2 * L * Lc1 L f m q)) - s * (L * Lc2 L f m) * (2 * Lc2 L f m)) = (s * s) * (6 * (L * L * Lc1 L f m q) - 2 * (L * (Lc2 L f m * Lc2 L f m))) := by grind
      rw [this, hss]; unfold Lc1 Lc2 rA; grind
    · have : s * (3 * L * (s * (3 * L * Lc0 L f m q)) - s * (L * Lc2 L f m) * Lc1 L f m q) = (s * s) * (9 * (L * L * Lc0 L f m q) - L * (Lc2 L f m * Lc1 L f m q)) := by grind
      rw [this, hss]; unfold Lc0 Lc1 Lc2 rA; grind
theorem disc_V {L f m q e0 e1 k1 k2 : Int} (h1 : k1 * e1 = k2 * (L * rA (f - m) q)) (h0 : k1 * e0 = k2 * (L * (-(rA (f - m) q * m) - 4 * ((f - m) * q)))) :
    k1 * k1 * (Lc1 L f m q * (e1 * e1) - (2 * Lc2 L f m * e1 - 3 * L * e0) * e0) = -(9 * (k2 * k2 * (L * L)) * (L * (q * (((f - m) * (f - m) - q) * ((f - m) * (f - m) - q))))) := by
  have : k1 * k1 * (Lc1 L f m q * (e1 * e1) - (2 * Lc2 L f m * e1 - 3 * L * e0) * e0) = Lc1 L f m q * ((k1 * e1) * (k1 * e1)) - (2 * Lc2 L f m * (k1 * e1) - 3 * L * (k1 * e0)) * (k1 * e0) := by grind
  rw [this, h1, h0]
  unfold Lc1 Lc2 rA
  grind
theorem chain_3 {L f m q e0 e1 k1 k2 : Int} (hL : L ≠ 0) (p1 : 0 < k1) (p2 : 0 < k2) (h1 : k1 * e1 = k2 * (L * rA (f - m) q)) (h0 : k1 * e0 = k2 * (L * (-(rA (f - m) q * m) - 4 * ((f - m) * q)))) (he : e1 ≠ 0) :
    ∃ v j1 j2 : Int, 0 < j1 ∧ 0 < j2 ∧
    timesP (-1) 0 (elimP (elimP (W2 (Lc0 L f m q) (Lc1 L f m q) (Lc2 L f m) L) (E1 e0 e1) 1) (E1 e0 e1) 1) = V0 v ∧
    elimP (elimP (W2 (Lc0 L f m q) (Lc1 L f m q) (Lc2 L f m) L) (E1 e0 e1) 1) (E1 e0 e1) 1 = V0 (-v) ∧
    j1 * v = j2 * (L * (q * (((f - m) * (f - m) - q) * ((f - m) * (f - m) - q)))) := by
  refine bC fun z_ => ?_
  (obtain ⟨s, hs, e⟩ := elim_d (c0 := Lc0 L f m q) (c1 := Lc1 L f m q) (c2 := Lc2 L f m) (e0 := e0) hL he) <;> refine z_ ?_ <;> clear z_
  have D := disc_V h1 h0
  have hss : s * s = 1 := by rcases hs with ⟨rfl, _⟩ | ⟨rfl, _⟩ <;> rfl
  have hse : 0 < s * e1 := by rcases hs with ⟨rfl, _⟩ | ⟨rfl, _⟩ <;> omega
  have h2 : 0 < L * L := by
    rcases ne_cases hL with h | h
    · exact nn h h
    · exact pp h h
  have hk : 0 < k1 * k1 := pp p1 p1
  have hj : 0 < 9 * (k2 * k2 * (L * L)) := by have := pp (pp p2 p2) h2; omega
  have hs0 : s ≠ 0 := by omega
  rw [e]
  by_cases ha : 2 * Lc2 L f m * e1 - 3 * L * e0 = 0
  · rw [ha, Int.mul_zero, elim_f, neg_V0]
    refine ⟨_, s * e1 * (k1 * k1), _, pp hse hk, hj, rfl, by rw [Int.neg_neg], ?_⟩
    rw [ha] at D
    have : s * e1 * (k1 * k1) * -(s * (e1 * Lc1 L f m q)) = -((s * s) * (k1 * k1 * (Lc1 L f m q * (e1 * e1) - 0 * e0))) := by grind
    rw [this, D, hss]; grind
  · rw [elim_e hs (by intro h; rcases Int.mul_eq_zero.mp h with h | h; exact hs0 h; exact ha h), neg_V0]
    refine ⟨_, k1 * k1, _, hk, hj, rfl, by rw [Int.neg_neg], ?_⟩
    have : k1 * k1 * -(s * (e1 * (s * (e1 * Lc1 L f m q)) - s * (2 * Lc2 L f m * e1 - 3 * L * e0) * e0)) = -((s * s) * (k1 * k1 * (Lc1 L f m q * (e1 * e1) - (2 * Lc2 L f m * e1 - 3 * L * e0) * e0))) := by grind
    rw [this, D, hss]; grind
end Mine
end

/- part PU -/
section
set_option maxRecDepth 100000
namespace Mine
theorem deg_neg (p : P4) : degP (timesP (-1) 0 p) = degP p := by
  simp [degP, timesP, co, cf, deg]
theorem deg_E1 {e0 e1 : Int} : degP (E1 e0 e1) = if e1 ≠ 0 then 1 else if e0 ≠ 0 then 0 else -1 := by
  show deg e0 e1 0 0 = _
  unfold deg; rw [if_neg (by simp), if_neg (by simp)]
theorem deg_V0 {v : Int} : degP (V0 v) = if v ≠ 0 then 0 else -1 := by
  show deg v 0 0 0 = _
  unfold deg; rw [if_neg (by simp), if_neg (by simp), if_neg (by simp)]
theorem mul_ne {a b : Int} (h : a ≠ 0) (k : b ≠ 0) : a * b ≠ 0 := fun e => (Int.mul_eq_zero.mp e).elim h k
noncomputable def dd (t q : Int) : Int := q * ((t * t - q) * (t * t - q))
theorem chain_form {L f m q : Int} (hL : L ≠ 0) : ∃ e0 e1 k1 k2 : Int, 0 < k1 ∧ 0 < k2 ∧
    k1 * e1 = k2 * (L * rA (f - m) q) ∧ k1 * e0 = k2 * (L * (-(rA (f - m) q * m) - 4 * ((f - m) * q))) ∧
    ((f = m ∧ q = 0 ∧ chainP (W3 (Lc0 L f m q) (Lc1 L f m q) (Lc2 L f m) L) = [W3 (Lc0 L f m q) (Lc1 L f m q) (Lc2 L f m) L, W2 (Lc0 L f m q) (Lc1 L f m q) (Lc2 L f m) L]) ∨
     (¬(f = m ∧ q = 0) ∧ (rA (f - m) q = 0 ∨ dd (f - m) q = 0) ∧ chainP (W3 (Lc0 L f m q) (Lc1 L f m q) (Lc2 L f m) L) = [W3 (Lc0 L f m q) (Lc1 L f m q) (Lc2 L f m) L, W2 (Lc0 L f m q) (Lc1 L f m q) (Lc2 L f m) L, E1 e0 e1]) ∨
     (rA (f - m) q ≠ 0 ∧ dd (f - m) q ≠ 0 ∧ ∃ v j1 j2 : Int, 0 < j1 ∧ 0 < j2 ∧ j1 * v = j2 * (L * dd (f - m) q) ∧ chainP (W3 (Lc0 L f m q) (Lc1 L f m q) (Lc2 L f m) L) = [W3 (Lc0 L f m q) (Lc1 L f m q) (Lc2 L f m) L, W2 (Lc0 L f m q) (Lc1 L f m q) (Lc2 L f m) L, E1 e0 e1, V0 v])) := by
  refine bC fun z_ => ?_
  (obtain ⟨e0, e1, k1, k2, p1, p2, hE, h1, h0⟩ := chain_2 (f := f) (m := m) (q := q) hL) <;> refine z_ ?_ <;> clear z_
  refine ⟨e0, e1, k1, k2, p1, p2, h1, h0, ?_⟩
  have z1 : e1 = 0 ↔ rA (f - m) q = 0 := by
    refine ⟨fun h => ?_, fun h => ?_⟩
    · rw [h, Int.mul_zero] at h1
      rcases Int.mul_eq_zero.mp h1.symm with a | a
      · omega
      · exact (Int.mul_eq_zero.mp a).resolve_left hL
    · rw [h, Int.mul_zero, Int.mul_zero] at h1
      exact (Int.mul_eq_zero.mp h1).resolve_left (by omega)
  have z0 : (e1 = 0 ∧ e0 = 0) ↔ (f = m ∧ q = 0) := by
    refine ⟨fun ⟨a, b⟩ => ?_, fun ⟨a, b⟩ => ?_⟩
    · have a' := z1.mp a
      rw [b, Int.mul_zero, a'] at h0
      have c := (Int.mul_eq_zero.mp ((Int.mul_eq_zero.mp h0.symm).resolve_left (by omega))).resolve_left hL
      have d : (f - m) * q = 0 := by omega
      unfold rA at a'
      rcases Int.mul_eq_zero.mp d with d | d
      · rw [d] at a'; omega
      · subst d
        have : (f - m) * (f - m) = 0 := by omega
        rcases Int.mul_eq_zero.mp this with x | x <;> omega
    · subst a b
      have hA : rA (f - f) 0 = 0 := by unfold rA; simp
      refine ⟨z1.mpr hA, ?_⟩
      rw [hA] at h0
      have : k1 * e0 = 0 := by rw [h0]; simp
      exact (Int.mul_eq_zero.mp this).resolve_left (by omega)
  have hdW : degP (W2 (Lc0 L f m q) (Lc1 L f m q) (Lc2 L f m) L) = 2 := deg_W2 hL
  have hw1 := slope1 (Lc0 L f m q) (Lc1 L f m q) (Lc2 L f m) L
  have hD := deg_neg (elimP (elimP (W3 (Lc0 L f m q) (Lc1 L f m q) (Lc2 L f m) L) (W2 (Lc0 L f m q) (Lc1 L f m q) (Lc2 L f m) L) 2) (W2 (Lc0 L f m q) (Lc1 L f m q) (Lc2 L f m) L) 2)
  rw [hE, deg_E1] at hD
  unfold chainP
  dsimp only
  rw [hw1]
  by_cases c0 : e1 = 0 ∧ e0 = 0
  · have hs : ∀ ch, stepC ch (W3 (Lc0 L f m q) (Lc1 L f m q) (Lc2 L f m) L) (W2 (Lc0 L f m q) (Lc1 L f m q) (Lc2 L f m) L) = ch := fun ch => by
      unfold stepC; dsimp only
      rw [hdW, if_neg]
      rw [← hD, c0.1, c0.2]; decide
    rw [hs]
    dsimp only
    rw [hs]
    exact .inl ⟨(z0.mp c0).1, (z0.mp c0).2, rfl⟩
  · have hs : stepC [W3 (Lc0 L f m q) (Lc1 L f m q) (Lc2 L f m) L, W2 (Lc0 L f m q) (Lc1 L f m q) (Lc2 L f m) L] (W3 (Lc0 L f m q) (Lc1 L f m q) (Lc2 L f m) L) (W2 (Lc0 L f m q) (Lc1 L f m q) (Lc2 L f m) L) = [W3 (Lc0 L f m q) (Lc1 L f m q) (Lc2 L f m) L, W2 (Lc0 L f m q) (Lc1 L f m q) (Lc2 L f m) L, E1 e0 e1] := by
      unfold stepC; dsimp only
      rw [hdW, if_pos, hE]; · rfl
      refine ⟨by decide, ?_⟩
      rw [← hD]
      by_cases a : e1 = 0
      · have : e0 ≠ 0 := fun b => c0 ⟨a, b⟩
        simp [a, this]
      · simp [a]
    rw [hs]
    dsimp only
    by_cases c1 : e1 = 0
    · refine .inr (.inl ⟨fun h => c0 (z0.mpr h), .inl (z1.mp c1), ?_⟩)
      have hn : degP (E1 e0 e1) ≤ 0 := by rw [deg_E1, if_neg (by simp [c1])]; split <;> decide
      unfold stepC; dsimp only
      rw [if_neg]
      intro h; omega
    · obtain ⟨v, j1, j2, q1, q2, hV, hV', hj⟩ := chain_3 hL p1 p2 h1 h0 c1
      have dE : degP (E1 e0 e1) = 1 := by rw [deg_E1, if_pos c1]
      by_cases c2 : dd (f - m) q = 0
      · have hv : v = 0 := by
          unfold dd at c2; rw [c2, Int.mul_zero, Int.mul_zero] at hj
          exact (Int.mul_eq_zero.mp hj).resolve_left (by omega)
        refine .inr (.inl ⟨fun h => c0 (z0.mpr h), .inr c2, ?_⟩)
        unfold stepC; dsimp only
        rw [dE, hV', hv, if_neg]
        decide
      · have hv : v ≠ 0 := fun h => by
          rw [h, Int.mul_zero] at hj
          exact mul_ne (by omega : j2 ≠ 0) (mul_ne hL c2) hj.symm
        refine .inr (.inr ⟨fun h => c1 (z1.mpr h), c2, v, j1, j2, q1, q2, hj, ?_⟩)
        unfold stepC; dsimp only
        rw [dE, hV, hV', if_pos]; · rfl
        refine ⟨by decide, ?_⟩
        rw [deg_V0, if_pos (by omega)]
        decide
end Mine
end

/- part PV -/
section
set_option maxRecDepth 100000
namespace Mine
theorem sg_prop {a b k1 k2 : Int} (p1 : 0 < k1) (p2 : 0 < k2) (h : k1 * a = k2 * b) : sg1 a = sg1 b := by
  rw [← sg_scale p1 (x := a), h, sg_scale p2]
theorem at_W3 (L f m q v : Int) : (W3 (Lc0 L f m q) (Lc1 L f m q) (Lc2 L f m) L).at v = L * gg (v - m) (f - m) q := by
  unfold P4.at W3 Lc0 Lc1 Lc2 gg; dsimp only; grind
theorem at_W2 (L f m q v : Int) : (W2 (Lc0 L f m q) (Lc1 L f m q) (Lc2 L f m) L).at v = L * g1 (v - m) (f - m) q := by
  unfold P4.at W2 Lc1 Lc2 g1; dsimp only; grind
theorem at_E1 {L f m q e0 e1 k1 k2 v : Int} (h1 : k1 * e1 = k2 * (L * rA (f - m) q)) (h0 : k1 * e0 = k2 * (L * (-(rA (f - m) q * m) - 4 * ((f - m) * q)))) :
    k1 * (E1 e0 e1).at v = k2 * (L * rr (v - m) (f - m) q) := by
  have : k1 * (E1 e0 e1).at v = (k1 * e1) * v + k1 * e0 := by unfold P4.at E1; dsimp only; grind
  rw [this, h1, h0, rr_eq]; grind
theorem at_V0 (v x : Int) : (V0 v).at x = v := by unfold P4.at V0; simp
noncomputable def bases (y t q : Int) : List Int :=
  if t = 0 ∧ q = 0 then [gg y t q, g1 y t q] else if rA t q = 0 ∨ dd t q = 0 then [gg y t q, g1 y t q, rr y t q] else [gg y t q, g1 y t q, rr y t q, dd t q]
/- Sturm's row at a spot, by sign, is lead times the bases -/
theorem sturm_vals {L f m q : Int} (hL : L ≠ 0) (v : Int) : sgn ((chainP (W3 (Lc0 L f m q) (Lc1 L f m q) (Lc2 L f m) L)).map (·.at v)) = sgn ((bases (v - m) (f - m) q).map (L * ·)) := by
  refine bC fun z_ => ?_
  (obtain ⟨e0, e1, k1, k2, p1, p2, h1, h0, h⟩ := chain_form (f := f) (m := m) (q := q) hL) <;> refine z_ ?_ <;> clear z_
  have hE := sg_prop p1 p2 (at_E1 (v := v) h1 h0)
  unfold bases
  rcases h with ⟨a, b, h⟩ | ⟨a, b, h⟩ | ⟨a, b, w, j1, j2, q1, q2, hj, h⟩
  · rw [h, if_pos ⟨by omega, b⟩]
    simp only [List.map_cons, List.map_nil, at_W3, at_W2]
  · rw [h, if_neg (by omega), if_pos b]
    unfold sgn
    simp only [List.map_cons, List.map_nil, at_W3, at_W2, hE]
  · rw [h, if_neg, if_neg (by intro z; exact z.elim a b)]
    · have hV := sg_prop q1 q2 hj
      unfold sgn
      simp only [List.map_cons, List.map_nil, at_W3, at_W2, at_V0, hE, hV]
    · intro ⟨z1, z2⟩
      refine a ?_
      unfold rA; rw [z1, z2]; rfl
/- Fourier's row -/
theorem fourier_vals (L f m q v : Int) : sgn ([W3 (Lc0 L f m q) (Lc1 L f m q) (Lc2 L f m) L, W2 (Lc0 L f m q) (Lc1 L f m q) (Lc2 L f m) L, ⟨[(1, 6 * L), (0, 2 * Lc2 L f m)], 2 * Lc2 L f m, 6 * L, 0, 0⟩, ⟨[(0, 6 * L)], 6 * L, 0, 0, 0⟩].map (·.at v)) = sgn ([gg (v - m) (f - m) q, g1 (v - m) (f - m) q, 3 * (v - m) - (f - m), 1].map (L * ·)) := by
  have a : P4.at ⟨[(1, 6 * L), (0, 2 * Lc2 L f m)], 2 * Lc2 L f m, 6 * L, 0, 0⟩ v = 2 * (L * (3 * (v - m) - (f - m))) := by unfold P4.at Lc2; dsimp only; grind
  have b : P4.at ⟨[(0, 6 * L)], 6 * L, 0, 0, 0⟩ v = 6 * (L * 1) := by unfold P4.at; dsimp only; grind
  unfold sgn
  simp only [List.map_cons, List.map_nil, at_W3, at_W2, a, b]
  rw [sg_scale (by decide : (0 : Int) < 2), sg_scale (by decide : (0 : Int) < 6)]
end Mine
end

/- part PX -/
section
set_option maxRecDepth 100000
namespace Mine
theorem sgB_ne {i : Fin 3} : ∀ {l : List (Fin 3)}, i ∈ l → i ≠ 0 → sgB l ≠ []
  | a :: l, h, k => by
    rcases List.mem_cons.mp h with rfl | h
    · match i, k with
      | 1, _ => intro z; cases z
      | 2, _ => intro z; cases z
    · have := sgB_ne h k
      match a with
      | 0 => exact this
      | 1 => intro z; cases z
      | 2 => intro z; cases z
theorem sgn_ne {x : Int} {l : List Int} (h : x ∈ l) (k : x ≠ 0) : sgn l ≠ [] :=
  sgB_ne (List.mem_map.mpr ⟨x, h, rfl⟩) (fun z => k (s0.mp z))
/- changes far below -/
noncomputable def lowN (t q : Int) : Nat := if t = 0 ∧ q = 0 then 1 else if rA t q = 0 then (if 0 < t then 1 else 2) else if dd t q = 0 then 2 else if 0 < q then 3 else 2
noncomputable def lefN (y q : Int) : Nat := if 0 ≤ q ∧ (0 ≤ y ∨ y * y ≤ q) then 1 else 0
noncomputable def rigN (y q : Int) : Nat := if 0 ≤ q ∧ 0 ≤ y ∧ y * y ≥ q then 1 else 0
noncomputable def Cnt (y t q : Int) : Prop :=
  (sgn (bases y t q) = [] ↔ (t * t = q ∧ y = t) ∨ (q = 0 ∧ y = 0)) ∧ (sgn (bases y t q)).length ≠ 1 ∧
  (sgn (bases y t q) ≠ [] → lowN t q = sc (bases y t q) + (if t * t = q then 0 else if y < t then 0 else 1) + lefN y q + (if 0 < q then rigN y q else 0))
theorem sqpos {a : Int} (h : a ≠ 0) : 0 < a * a := by
  rcases ne_cases h with h | h
  · exact nn h h
  · exact pp h h
theorem cnt_neg {y t q : Int} (hq : q < 0) : Cnt y t q := by
  have n1 : ¬ (t * t = q) := by have := sq0 t; omega
  have n2 : ¬ (t = 0 ∧ q = 0) := by omega
  have hd : dd t q < 0 := by unfold dd; exact np hq (sqpos (by omega))
  have hl : lefN y q = 0 := if_neg (by omega)
  by_cases hA : rA t q = 0
  · have ht : t ≠ 0 := fun h => by subst h; unfold rA at hA; omega
    have er : rr y t q = -4 * (t * q) := by rw [rr_eq, hA]; omega
    have sr : sg1 (rr y t q) = sg1 t := by
      rw [er]
      rcases ne_cases ht with h | h
      · have := nn h hq; rw [s1.mpr h, s1]; omega
      · have := pn h hq; rw [s2.mpr h, s2]; omega
    have S := sturm_a0 (y := y) (c := rr y t q) hq hA sr
    have eb : bases y t q = [gg y t q, g1 y t q, rr y t q] := by unfold bases; rw [if_neg n2, if_pos (.inl hA)]
    have en : lowN t q = if 0 < t then 1 else 2 := by unfold lowN; rw [if_neg n2, if_pos hA]
    have ne : sgn [gg y t q, g1 y t q, rr y t q] ≠ [] := sgn_ne (x := rr y t q) (by simp) (fun h => by rw [h] at sr; exact ht (s0.mp (by rw [← sr]; rfl)))
    unfold Cnt
    rw [eb, en, hl, if_neg n1, if_neg (show ¬ 0 < q by omega)]
    refine ⟨⟨fun h => absurd h ne, fun h => by omega⟩, S.2, fun _ => ?_⟩
    have := S.1; omega
  · have S := sturm_neg (y := y) (t := t) hq hd
    have eb : bases y t q = [gg y t q, g1 y t q, rr y t q, dd t q] := by unfold bases; rw [if_neg n2, if_neg (by omega)]
    have en : lowN t q = 2 := by unfold lowN; rw [if_neg n2, if_neg hA, if_neg (by omega), if_neg (by omega)]
    have ne : sgn [gg y t q, g1 y t q, rr y t q, dd t q] ≠ [] := sgn_ne (x := dd t q) (by simp) (by omega)
    unfold Cnt
    rw [eb, en, hl, if_neg n1, if_neg (show ¬ 0 < q by omega)]
    refine ⟨⟨fun h => absurd h ne, fun h => by omega⟩, S.2, fun _ => ?_⟩
    have := S.1
    by_cases h : y < t
    · rw [if_pos h] at this ⊢; omega
    · rw [if_neg h] at this ⊢; omega
theorem cnt_pos {y t q : Int} (hq : 0 < q) : Cnt y t q := by
  have n2 : ¬ (t = 0 ∧ q = 0) := by omega
  have hA : rA t q ≠ 0 := by have := sq0 t; unfold rA; omega
  have hl : lefN y q = if 0 ≤ y ∨ y * y ≤ q then 1 else 0 := by unfold lefN; simp only [show 0 ≤ q by omega, true_and]
  have hr : rigN y q = if 0 ≤ y ∧ y * y ≥ q then 1 else 0 := by unfold rigN; simp only [show 0 ≤ q by omega, true_and]
  by_cases ht : t * t = q
  · have hd : dd t q = 0 := by unfold dd; rw [ht]; simp
    have eb : bases y t q = [gg y t q, g1 y t q, rr y t q] := by unfold bases; rw [if_neg n2, if_pos (.inr hd)]
    have en : lowN t q = 2 := by unfold lowN; rw [if_neg n2, if_neg hA, if_pos hd]
    unfold Cnt
    rw [eb, en, hl, hr, if_pos ht, if_pos hq]
    by_cases hy : y = t
    · have z : sgn [gg y t q, g1 y t q, rr y t q] = [] := by
        have a : gg y t q = 0 := by unfold gg; rw [hy, ht]; simp
        have b : g1 y t q = 0 := by rw [g1_split, hy, ht]; simp
        have c : rr y t q = 0 := by unfold rr; rw [hy, ← ht]; grind
        rw [a, b, c]; rfl
      exact ⟨⟨fun _ => .inl ⟨ht, hy⟩, fun _ => z⟩, by rw [z]; decide, fun h => absurd z h⟩
    · have S := sturm_tw hq ht hy
      exact ⟨⟨fun h => absurd h S.2.2, fun h => by omega⟩, S.2.1, fun _ => by have := S.1; omega⟩
  · have hd : 0 < dd t q := by unfold dd; exact pp hq (sqpos (by omega))
    have S := sturm_pos (y := y) hq ht hd
    have eb : bases y t q = [gg y t q, g1 y t q, rr y t q, dd t q] := by unfold bases; rw [if_neg n2, if_neg (by omega)]
    have en : lowN t q = 3 := by unfold lowN; rw [if_neg n2, if_neg hA, if_neg (by omega), if_pos hq]
    unfold Cnt
    rw [eb, en, hl, hr, if_neg ht, if_pos hq]
    exact ⟨⟨fun h => absurd h S.2.2, fun h => by omega⟩, S.2.1, fun _ => by have := S.1; omega⟩
theorem cnt_zero {y t : Int} : Cnt y t 0 := by
  by_cases ht : t = 0
  · subst ht
    have eb : bases y 0 0 = [gg y 0 0, g1 y 0 0] := if_pos ⟨rfl, rfl⟩
    unfold Cnt
    rw [eb]
    by_cases hy : y = 0
    · subst hy
      exact ⟨⟨fun _ => .inr ⟨rfl, rfl⟩, fun _ => rfl⟩, by decide, fun h => absurd rfl h⟩
    · have S := sturm_00 hy
      have e : lefN y 0 = if 0 ≤ y then 1 else 0 := by
        unfold lefN; have := sqpos hy
        by_cases h : 0 ≤ y
        · rw [if_pos h, if_pos ⟨by decide, .inl h⟩]
        · rw [if_neg h, if_neg (by omega)]
      refine ⟨⟨fun h => absurd h S.2.2, fun h => by omega⟩, S.2.1, fun _ => ?_⟩
      rw [e, show lowN 0 0 = 1 from rfl, if_pos (show (0 : Int) * 0 = 0 from rfl), if_neg (show ¬ (0 : Int) < 0 by decide)]; have := S.1; omega
  · have hd : dd t 0 = 0 := by unfold dd; simp
    have hA : rA t 0 ≠ 0 := by have := sqpos ht; unfold rA; omega
    have eb : bases y t 0 = [gg y t 0, g1 y t 0, rr y t 0] := by unfold bases; rw [if_neg (by omega), if_pos (.inr hd)]
    have en : lowN t 0 = 2 := by unfold lowN; rw [if_neg (by omega), if_neg hA, if_pos hd]
    have h1 : ¬ (t * t = 0) := by have := sqpos ht; omega
    unfold Cnt
    rw [eb, en, if_neg h1, if_neg (show ¬ (0 : Int) < 0 by decide)]
    by_cases hy : y = 0
    · subst hy
      have z : sgn [gg 0 t 0, g1 0 t 0, rr 0 t 0] = [] := by
        have a : gg 0 t 0 = 0 := by unfold gg; simp
        have b : g1 0 t 0 = 0 := by unfold g1; simp
        have c : rr 0 t 0 = 0 := by unfold rr; simp
        rw [a, b, c]; rfl
      exact ⟨⟨fun _ => .inr ⟨rfl, rfl⟩, fun _ => z⟩, by rw [z]; decide, fun h => absurd z h⟩
    · have S := sturm_q0 ht hy
      have e : lefN y 0 = if 0 ≤ y then 1 else 0 := by
        unfold lefN; have := sqpos hy
        by_cases h : 0 ≤ y
        · rw [if_pos h, if_pos ⟨by decide, .inl h⟩]
        · rw [if_neg h, if_neg (by omega)]
      refine ⟨⟨fun h => absurd h S.2.2, fun h => by omega⟩, S.2.1, fun _ => ?_⟩
      rw [e]; have := S.1; omega
theorem cnt (y t q : Int) : Cnt y t q := by
  rcases Int.lt_trichotomy q 0 with h | h | h
  · exact cnt_neg h
  · subst h; exact cnt_zero
  · exact cnt_pos h
end Mine
end

/- part PY -/
section
set_option maxRecDepth 100000
namespace Mine
/- the first sign of each entry far below, far above -/
noncomputable def hiE (p : P4) : Int := p.cf (degP p)
noncomputable def loE (p : P4) : Int := p.cf (degP p) * (if degP p = 1 ∨ degP p = 3 then -1 else 1)
theorem hi_W3 {c0 c1 c2 L : Int} (h : L ≠ 0) : hiE (W3 c0 c1 c2 L) = L ∧ loE (W3 c0 c1 c2 L) = -L := by
  have : degP (W3 c0 c1 c2 L) = 3 := by simp [degP, deg, W3, h]
  unfold hiE loE; rw [this]; simp [P4.cf, cf, W3]
theorem hi_W2 {c0 c1 c2 L : Int} (h : L ≠ 0) : hiE (W2 c0 c1 c2 L) = 3 * L ∧ loE (W2 c0 c1 c2 L) = 3 * L := by
  unfold hiE loE; rw [deg_W2 h]; simp [P4.cf, cf, W2]
theorem hi_E1 {e0 e1 : Int} : (e1 ≠ 0 → hiE (E1 e0 e1) = e1 ∧ loE (E1 e0 e1) = -e1) ∧ (e1 = 0 → e0 ≠ 0 → hiE (E1 e0 e1) = e0 ∧ loE (E1 e0 e1) = e0) := by
  refine ⟨fun h => ?_, fun h k => ?_⟩
  · have : degP (E1 e0 e1) = 1 := by rw [deg_E1, if_pos h]
    unfold hiE loE; rw [this]; simp [P4.cf, cf, E1]
  · have : degP (E1 e0 e1) = 0 := by rw [deg_E1, if_neg (by simp [h]), if_pos k]
    unfold hiE loE; rw [this]; simp [P4.cf, cf, E1]
theorem hi_V0 {v : Int} (h : v ≠ 0) : hiE (V0 v) = v ∧ loE (V0 v) = v := by
  have : degP (V0 v) = 0 := by rw [deg_V0, if_pos h]
  unfold hiE loE; rw [this]; simp [P4.cf, cf, V0]
end Mine
end

/- part PZ -/
section
set_option maxRecDepth 100000
namespace Mine
noncomputable def ng (i : Fin 3) : Fin 3 := m3 1 i
theorem sg_neg (x : Int) : sg1 (-x) = ng (sg1 x) := by
  have : -x = (-1) * x := by omega
  rw [this, sg_mul]; rfl
theorem endB1 : ∀ l : Fin 3, l ≠ 0 → chg (sgB [ng l, l]) = 1 ∧ chg (sgB [l, l]) = 0 := by decide
theorem endB2 : ∀ l a : Fin 3, l ≠ 0 → a ≠ 0 → chg (sgB [ng l, l, m3 l a]) = (if a = 2 then 1 else 2) ∧ chg (sgB [l, l, m3 l a]) = (if a = 2 then 0 else 1) := by decide
theorem endB3 : ∀ l : Fin 3, l ≠ 0 → chg (sgB [ng l, l, ng (m3 l 2)]) = 2 ∧ chg (sgB [l, l, m3 l 2]) = 0 := by decide
theorem endB4 : ∀ l a d : Fin 3, l ≠ 0 → a ≠ 0 → d ≠ 0 → (d = 2 → a = 2) → chg (sgB [ng l, l, ng (m3 l a), m3 l d]) = (if d = 2 then 3 else 2) ∧ chg (sgB [l, l, m3 l a, m3 l d]) = (if d = 2 then 0 else 1) := by decide
theorem ends {L f m q : Int} (hL : L ≠ 0) : ∀ ch, ch = chainP (W3 (Lc0 L f m q) (Lc1 L f m q) (Lc2 L f m) L) →
    sc (ch.map loE) = lowN (f - m) q ∧ lowN (f - m) q = sc (ch.map hiE) + (if q < 0 then 0 else if q = 0 then 1 else 2) + (if (f - m) * (f - m) = q then 0 else 1) := by
  intro ch hch
  refine bC fun z_ => ?_
  (obtain ⟨e0, e1, k1, k2, p1, p2, h1, h0, h⟩ := chain_form (f := f) (m := m) (q := q) hL) <;> refine z_ ?_ <;> clear z_
  rw [← hch] at h
  have hl : sg1 L ≠ 0 := fun z => hL (s0.mp z)
  have h3 : sg1 (3 * L) = sg1 L := sg_scale (by decide)
  have hW := hi_W3 (c0 := Lc0 L f m q) (c1 := Lc1 L f m q) (c2 := Lc2 L f m) hL
  have hW2 := hi_W2 (c0 := Lc0 L f m q) (c1 := Lc1 L f m q) (c2 := Lc2 L f m) hL
  have hE1 : sg1 e1 = m3 (sg1 L) (sg1 (rA (f - m) q)) := by rw [sg_prop p1 p2 h1, sg_mul]
  generalize ht : f - m = t at *
  rcases h with ⟨a, b, h⟩ | ⟨a, b, h⟩ | ⟨a, b, w, j1, j2, q1, q2, hj, h⟩
  · have t0 : t = 0 := by omega
    subst b; subst t0
    have B := endB1 (sg1 L) hl
    have c1 : sc (ch.map loE) = 1 := by
      rw [h]; unfold sc sgn; simp only [List.map_cons, List.map_nil, hW.2, hW2.2, sg_neg, h3]; exact B.1
    have c2 : sc (ch.map hiE) = 0 := by
      rw [h]; unfold sc sgn; simp only [List.map_cons, List.map_nil, hW.1, hW2.1, h3]; exact B.2
    rw [c1, c2]; decide
  · have n2 : ¬ (t = 0 ∧ q = 0) := by omega
    by_cases hA : rA t q = 0
    · have z1 : e1 = 0 := by
        rw [hA, Int.mul_zero, Int.mul_zero] at h1
        exact (Int.mul_eq_zero.mp h1).resolve_left (by omega)
      have tn : t ≠ 0 := fun z => by subst z; unfold rA at hA; omega
      have hq : q < 0 := by have := sqpos tn; unfold rA at hA; omega
      have e00 : sg1 e0 = m3 (sg1 L) (sg1 t) := by
        rw [sg_prop p1 p2 h0, sg_mul, hA]
        congr 1
        rcases ne_cases tn with z | z
        · have := nn z hq; rw [s1.mpr z, s1]; omega
        · have := pn z hq; rw [s2.mpr z, s2]; omega
      have tz : sg1 t ≠ 0 := fun z => tn (s0.mp z)
      have z0 : e0 ≠ 0 := fun z => by
        rw [z] at e00
        have : ∀ a b : Fin 3, a ≠ 0 → b ≠ 0 → m3 a b ≠ 0 := by decide
        exact this _ _ hl tz e00.symm
      have hE := hi_E1.2 z1 z0
      have B := endB2 (sg1 L) (sg1 t) hl tz
      have c1 : sc (ch.map loE) = if sg1 t = 2 then 1 else 2 := by
        rw [h]; unfold sc sgn; simp only [List.map_cons, List.map_nil, hW.2, hW2.2, hE.2, sg_neg, h3, e00]; exact B.1
      have c2 : sc (ch.map hiE) = if sg1 t = 2 then 0 else 1 := by
        rw [h]; unfold sc sgn; simp only [List.map_cons, List.map_nil, hW.1, hW2.1, hE.1, h3, e00]; exact B.2
      have en : lowN t q = if 0 < t then 1 else 2 := by unfold lowN; rw [if_neg n2, if_pos hA]
      have nt : ¬ (t * t = q) := by have := sq0 t; omega
      rw [c1, c2, en, if_pos hq, if_neg nt]
      by_cases z : 0 < t
      · rw [if_pos (s2.mpr z), if_pos z, if_pos (s2.mpr z)]; decide
      · have : ¬ (sg1 t = 2) := fun k => z (s2.mp k)
        rw [if_neg this, if_neg z, if_neg this]; decide
    · have hd : dd t q = 0 := b.resolve_left hA
      have hq : (q = 0 ∧ t ≠ 0) ∨ (0 < q ∧ t * t = q) := by
        unfold dd at hd
        rcases Int.mul_eq_zero.mp hd with z | z
        · exact .inl ⟨z, fun k => n2 ⟨k, z⟩⟩
        · have z' : t * t = q := by rcases Int.mul_eq_zero.mp z with k | k <;> omega
          by_cases k : t = 0
          · exact absurd ⟨k, by rw [← z', k]; rfl⟩ n2
          · exact .inr ⟨by rw [← z']; exact sqpos k, z'⟩
      have a2 : sg1 (rA t q) = 2 := by
        rw [s2]; unfold rA
        rcases hq with ⟨k, j⟩ | ⟨k, j⟩
        · have := sqpos j; omega
        · omega
      rw [a2] at hE1
      have z1 : e1 ≠ 0 := fun z => by
        rw [z] at hE1
        have : ∀ a : Fin 3, a ≠ 0 → m3 a 2 ≠ 0 := by decide
        exact this _ hl hE1.symm
      have hE := (hi_E1 (e0 := e0)).1 z1
      have B := endB3 (sg1 L) hl
      have c1 : sc (ch.map loE) = 2 := by
        rw [h]; unfold sc sgn; simp only [List.map_cons, List.map_nil, hW.2, hW2.2, hE.2, sg_neg, h3, hE1]; exact B.1
      have c2 : sc (ch.map hiE) = 0 := by
        rw [h]; unfold sc sgn; simp only [List.map_cons, List.map_nil, hW.1, hW2.1, hE.1, h3, hE1]; exact B.2
      have en : lowN t q = 2 := by unfold lowN; rw [if_neg n2, if_neg hA, if_pos hd]
      rw [c1, c2, en]
      refine ⟨rfl, ?_⟩
      rcases hq with ⟨k, j⟩ | ⟨k, j⟩
      · have := sqpos j
        rw [if_neg (show ¬ q < 0 by omega), if_pos k, if_neg (show ¬ (t * t = q) by omega)]
      · rw [if_neg (show ¬ q < 0 by omega), if_neg (show ¬ q = 0 by omega), if_pos j]
  · have n2 : ¬ (t = 0 ∧ q = 0) := fun z => a (by unfold rA; rw [z.1, z.2]; rfl)
    have q0 : q ≠ 0 := fun z => b (by unfold dd; rw [z]; simp)
    have nt : ¬ (t * t = q) := fun z => b (by unfold dd; rw [z]; simp)
    have hv := sg_prop q1 q2 hj
    rw [sg_mul] at hv
    have dn : sg1 (dd t q) ≠ 0 := fun z => b (s0.mp z)
    have an : sg1 (rA t q) ≠ 0 := fun z => a (s0.mp z)
    have m0 : ∀ a b : Fin 3, a ≠ 0 → b ≠ 0 → m3 a b ≠ 0 := by decide
    have z1 : e1 ≠ 0 := fun z => m0 _ _ hl an (by rw [← hE1, z]; rfl)
    have zw : w ≠ 0 := fun z => m0 _ _ hl dn (by rw [← hv, z]; rfl)
    have hE := (hi_E1 (e0 := e0)).1 z1
    have hV := hi_V0 zw
    have sp : 0 < (t * t - q) * (t * t - q) := sqpos (by omega)
    have hd2 : sg1 (dd t q) = 2 ↔ 0 < q := by
      rw [s2]; unfold dd
      refine ⟨fun k => ?_, fun k => pp k sp⟩
      rcases ne_cases q0 with j | j
      · have := np j sp; omega
      · exact j
    have B := endB4 (sg1 L) (sg1 (rA t q)) (sg1 (dd t q)) hl an dn (fun k => by
      have := hd2.mp k; have := sq0 t; rw [s2]; unfold rA; omega)
    have c1 : sc (ch.map loE) = if sg1 (dd t q) = 2 then 3 else 2 := by
      rw [h]; unfold sc sgn; simp only [List.map_cons, List.map_nil, hW.2, hW2.2, hE.2, hV.2, sg_neg, h3, hE1, hv]; exact B.1
    have c2 : sc (ch.map hiE) = if sg1 (dd t q) = 2 then 0 else 1 := by
      rw [h]; unfold sc sgn; simp only [List.map_cons, List.map_nil, hW.1, hW2.1, hE.1, hV.1, h3, hE1, hv]; exact B.2
    have en : lowN t q = if 0 < q then 3 else 2 := by unfold lowN; rw [if_neg n2, if_neg a, if_neg b]
    rw [c1, c2, en, if_neg nt]
    by_cases z : 0 < q
    · rw [if_pos (hd2.mpr z), if_pos z, if_pos (hd2.mpr z), if_neg (show ¬ q < 0 by omega), if_neg q0]; decide
    · have : ¬ (sg1 (dd t q) = 2) := fun k => z (hd2.mp k)
      rw [if_neg this, if_neg z, if_neg this, if_pos (show q < 0 by omega)]; decide
end Mine
end

/- part QA -/
section
set_option maxRecDepth 100000
namespace Mine
/- changes of Fourier's row -/
noncomputable def fc (y t q : Int) : Nat := sc [gg y t q, g1 y t q, 3 * y - t, 1]
noncomputable def heN (y t : Int) : Nat := if t ≤ y then 1 else 0
theorem heN_eq (y t : Int) : heN y t = if y < t then 0 else 1 := by
  unfold heN
  by_cases h : y < t
  · rw [if_pos h, if_neg (by omega)]
  · rw [if_neg h, if_pos (by omega)]
theorem gap_pos {y t q : Int} (hq : 0 ≤ q) : fc y t q + heN y t + lefN y q + rigN y q = 3 := by
  have B := budan_pos (y := y) (t := t) (q := q) (d := 1) hq (by decide)
  have hl : lefN y q = if 0 ≤ y ∨ y * y ≤ q then 1 else 0 := by unfold lefN; simp only [hq, true_and]
  have hr : rigN y q = if 0 ≤ y ∧ y * y ≥ q then 1 else 0 := by unfold rigN; simp only [hq, true_and]
  rw [heN_eq, hl, hr]; exact B
theorem gap_neg {y t q : Int} (hq : q < 0) : lefN y q = 0 ∧ rigN y q = 0 ∧ ((gapZ y t q ∧ fc y t q + heN y t = 3) ∨ (¬ gapZ y t q ∧ fc y t q + heN y t = 1)) := by
  have hl : lefN y q = 0 := if_neg (by omega)
  have hr : rigN y q = 0 := if_neg (by omega)
  refine ⟨hl, hr, ?_⟩
  rw [heN_eq]; exact budan_neg hq (by decide)
noncomputable def gapN (y t q : Int) : Int := 3 - fc y t q - heN y t - lefN y q - rigN y q
theorem gap_vals (y t q : Int) : (0 ≤ q → gapN y t q = 0) ∧ (q < 0 → gapN y t q = 0 ∨ gapN y t q = 2) := by
  unfold gapN
  refine ⟨fun h => by have := gap_pos (y := y) (t := t) h; omega, fun h => ?_⟩
  refine bC fun z_ => ?_
  (obtain ⟨a, b, c⟩ := gap_neg (y := y) (t := t) h) <;> refine z_ ?_ <;> clear z_
  rcases c with ⟨_, c⟩ | ⟨_, c⟩ <;> omega
theorem gap_mono {y z t q : Int} (h : y ≤ z) : gapN y t q ≤ gapN z t q := by
  by_cases hq : 0 ≤ q
  · rw [(gap_vals y t q).1 hq, (gap_vals z t q).1 hq]; omega
  · have hq' : q < 0 := by omega
    refine bC fun z_ => ?_
    (obtain ⟨a, b, c⟩ := gap_neg (y := y) (t := t) hq') <;> refine z_ ?_ <;> clear z_
    refine bC fun z_ => ?_
    (obtain ⟨a', b', c'⟩ := gap_neg (y := z) (t := t) hq') <;> refine z_ ?_ <;> clear z_
    unfold gapN
    rcases c' with ⟨k, c'⟩ | ⟨k, c'⟩
    · have := gapZ_down hq' h k
      rcases c with ⟨l, c⟩ | ⟨l, c⟩
      · omega
      · exact absurd this l
    · rcases c with ⟨l, c⟩ | ⟨l, c⟩ <;> omega
end Mine
end

/- part QB -/
section
open PySem PySem.W
set_option maxRecDepth 100000
namespace Mine
noncomputable abbrev wBody : List S := [.augSub 1 (.bin .mod (.var 2) (.lit (.int 7))) .add (.bin .mod (.var 3) (.bin .pow (.lit (.int 10)) (.lit (.int 6))))]
structure WI (B : Int) (r : Rho) : Prop where
  h : ∃ cs : List Int, r 1 = some (true, .list (cs.map D.int)) ∧ cs.length = 7 ∧ ∀ c ∈ cs, 0 ≤ c ∧ c ≤ B
theorem w_turn {r : Rho} {n : Nat} {x B : Int} (T : WI B r) (hn : n < 60) :
    ∃ r', ((r.put [2, 3] (.tup [.int n, .int x])).bind fun r1 => execs C0 r1 wBody) = some (.next, r') ∧ WI (B + 1000000) r' := by
  refine bC fun z_ => ?_
  (obtain ⟨cs, h1, hl, hb⟩ := T.h) <;> refine z_ ?_ <;> clear z_
  show ∃ r', execs C0 ((r.set 2 (.int n)).set 3 (.int x)) wBody = some (.next, r') ∧ _
  have g1 : ((r.set 2 (.int n)).set 3 (.int x)) 1 = some (true, .list (cs.map D.int)) := set_k (set_k h1)
  have v2 : ev C0 ((r.set 2 (.int n)).set 3 (.int x)) (.bin .mod (.var 2) (.lit (.int 7))) = some (.int ((n : Int).fmod 7)) := rfl
  have v3 : ev C0 ((r.set 2 (.int n)).set 3 (.int x)) (.bin .mod (.var 3) (.bin .pow (.lit (.int 10)) (.lit (.int 6)))) = some (.int (x.fmod 1000000)) := rfl
  generalize (r.set 2 (.int n)).set 3 (.int x) = r1 at *
  have f7 : (n : Int).fmod 7 = ((n % 7 : Nat) : Int) := by rw [Int.fmod_eq_emod_of_nonneg _ (by decide)]; rfl
  have hk : n % 7 < cs.length := by omega
  have fx : 0 ≤ x.fmod 1000000 ∧ x.fmod 1000000 < 1000000 := by
    rw [Int.fmod_eq_emod_of_nonneg _ (by decide)]; omega
  have e : exec C0 r1 (.augSub 1 (.bin .mod (.var 2) (.lit (.int 7))) .add (.bin .mod (.var 3) (.bin .pow (.lit (.int 10)) (.lit (.int 6))))) = some (.next, r1.own 1 (.list ((cs.map D.int).set (n % 7) (.int (cs[n % 7] + x.fmod 1000000))))) := by
    rw [f7] at v2
    have aug : augAt .add (.list (cs.map D.int)) ((n % 7 : Nat) : Int) (ev C0 r1 (.bin .mod (.var 3) (.bin .pow (.lit (.int 10)) (.lit (.int 6))))) = some (.list ((cs.map D.int).set (n % 7) (.int (cs[n % 7] + x.fmod 1000000)))) := by
      refine (if_pos ⟨hb100 (by rw [List.length_map]; omega), by omega⟩).trans (bs (a := D.int cs[n % 7]) ?_ (bs v3 rfl))
      rw [Int.toNat_natCast, List.getElem?_map, List.getElem?_eq_getElem hk]; rfl
    exact bs (own_of g1) (bs v2 (bs rfl (bs aug rfl)))
  refine ⟨_, execs_one e, ⟨cs.set (n % 7) (cs[n % 7] + x.fmod 1000000), ?_, by rw [List.length_set]; exact hl, fun c hc => ?_⟩⟩
  · rw [List.map_set]; exact own_eq
  · rcases List.mem_or_eq_of_mem_set hc with h | h
    · have := hb c h; omega
    · have := hb _ (List.getElem_mem hk); omega
theorem w_loop : ∀ (l : List Int) (n : Nat) (r : Rho) (B : Int), WI B r → n + l.length ≤ 60 →
    ∃ r', forM (fun d r => do let r' ← r.put [2, 3] d; execs C0 r' wBody) (enumD n (l.map D.int)) r = some (.next, r') ∧ WI (B + 1000000 * l.length) r'
  | [], n, r, B, T, _ => ⟨r, rfl, by simpa using T⟩
  | x :: l, n, r, B, T, h => by
    simp only [List.length_cons] at h
    refine bC fun z_ => ?_
    (obtain ⟨r1, e1, T1⟩ := w_turn (n := n) (x := x) T (by omega)) <;> refine z_ ?_ <;> clear z_
    refine bC fun z_ => ?_
    (obtain ⟨r2, e2, T2⟩ := w_loop l (n + 1) r1 _ T1 (by omega)) <;> refine z_ ?_ <;> clear z_
    refine ⟨r2, fo_cons e1 e2, ?_⟩
    · have : B + 1000000 * ((x :: l).length : Int) = B + 1000000 + 1000000 * (l.length : Int) := by simp only [List.length_cons]; omega
      rw [this]; exact T2
end Mine
end

/- part QC -/
section
open PySem PySem.W
set_option maxRecDepth 100000
namespace Mine
theorem fmod4 (d : Int) : d.fmod 4 = 0 ∨ d.fmod 4 = 1 ∨ d.fmod 4 = 2 ∨ d.fmod 4 = 3 := by
  rw [Int.fmod_eq_emod_of_nonneg _ (by decide)]; omega
noncomputable def pick (x0 x1 x2 x3 k : Int) : Int := if k = 0 then x0 else if k = 1 then x1 else if k = 2 then x2 else x3
theorem sub_pick (x0 x1 x2 x3 d : Int) : subD (.list [.int x0, .int x1, .int x2, .int x3]) (.int (d.fmod 4)) = some (.int (pick x0 x1 x2 x3 (d.fmod 4))) := by
  rcases fmod4 d with h | h | h | h <;> rw [h] <;> rfl
theorem fm {n : Int} (x : Int) (h : 0 < n := by decide) : 0 ≤ x.fmod n ∧ x.fmod n < n := by
  rw [Int.fmod_eq_emod_of_nonneg _ (by omega)]
  exact ⟨Int.emod_nonneg _ (by omega), Int.emod_lt_of_pos _ h⟩
noncomputable def wSize (d : Int) : Int := pick 1 1 2 (3 + (d.fdiv 4).fmod 1000) (d.fmod 4)
noncomputable def wGround (e : Int) : Int := pick 0 0 1 ((e.fdiv 4).fmod 1000000 - 500000) (e.fmod 4)
noncomputable def wLead (f : Int) : Int := pick 1 (-1) 2 (-3 - (f.fdiv 4).fmod 1000) (f.fmod 4)
theorem wSize_b (d : Int) : 1 ≤ wSize d ∧ wSize d ≤ 1002 := by
  unfold wSize pick; have := fm (n := 1000) (d.fdiv 4); repeat' split
  all_goals omega
theorem wGround_b (d : Int) : -500000 ≤ wGround d ∧ wGround d ≤ 499999 := by
  unfold wGround pick; have := fm (n := 1000000) (d.fdiv 4); repeat' split
  all_goals omega
theorem wLead_b (d : Int) : wLead d ≠ 0 ∧ -1002 ≤ wLead d ∧ wLead d ≤ 2 := by
  unfold wLead pick; have := fm (n := 1000) (d.fdiv 4); repeat' split
  all_goals omega
end Mine
end

/- part QD -/
section
open PySem PySem.W
set_option maxRecDepth 100000
namespace Mine
noncomputable def wList : X := .list [(.lit (.int 5)), (.lit (.int 2)), (.lit (.int 6)), (.lit (.int 4)), (.lit (.int 8)), (.lit (.int 1)), (.lit (.int 94))]
theorem list7 {cs : List Int} (h : cs.length = 7) : ∃ a b c d e f g, cs = [a, b, c, d, e, f, g] := by
  refine bC fun z => ?_
  obtain ⟨a, t1, e1, h⟩ := cons_of h
  obtain ⟨b, t2, e2, h⟩ := cons_of h
  obtain ⟨c, t3, e3, h⟩ := cons_of h
  obtain ⟨d, t4, e4, h⟩ := cons_of h
  obtain ⟨e, t5, e5, h⟩ := cons_of h
  obtain ⟨f, t6, e6, h⟩ := cons_of h
  obtain ⟨g, t7, e7, h⟩ := cons_of h
  exact z ⟨a, b, c, d, e, f, g, by rw [e1, e2, e3, e4, e5, e6, e7, List.eq_nil_of_length_eq_zero h]⟩
/- the loop's end -/
theorem w_cells (l : List Int) (h : l.length ≤ 63) : ∃ r a b c d e f g, (∀ x ∈ [a, b, c, d, e, f, g], 0 ≤ x ∧ x ≤ 60000094) ∧ r 1 = some (true, .list ([a, b, c, d, e, f, g].map D.int)) ∧
    exec C0 ((Rho.args [.list (l.map .int)]).own 1 (.list ([5, 2, 6, 4, 8, 1, 94].map D.int))) (.fors [2, 3] (.enum (.slice (.var 0) .none (some (.lit (.int 60))))) wBody) = some (.next, r) := by
  have T : WI 94 ((Rho.args [.list (l.map .int)]).own 1 (.list ([5, 2, 6, 4, 8, 1, 94].map D.int))) :=
    ⟨[5, 2, 6, 4, 8, 1, 94], rfl, rfl, by decide⟩
  obtain ⟨r, e, T'⟩ := w_loop (l.take 60) 0 _ 94 T (by rw [List.length_take]; omega)
  refine bC fun z_ => ?_
  (obtain ⟨cs, h1, hl, hb⟩ := T'.h) <;> refine z_ ?_ <;> clear z_
  refine bC fun z_ => ?_
  (obtain ⟨a, b, c, d, e', f, g, rfl⟩ := list7 hl) <;> refine z_ ?_ <;> clear z_
  refine ⟨r, a, b, c, d, e', f, g, fun x hx => ?_, h1, ?_⟩
  · have := hb x hx
    have hk : (l.take 60).length ≤ 60 := by rw [List.length_take]; omega
    omega
  · refine ex_for (l := enumD 0 ((l.take 60).map D.int)) ?_ e
    have hs : ev C0 ((Rho.args [.list (l.map .int)]).own 1 (.list ([5, 2, 6, 4, 8, 1, 94].map D.int))) (.slice (.var 0) .none (some (.lit (.int 60)))) = some (.list ((l.take 60).map D.int)) := by
      have v0 : ev C0 ((Rho.args [.list (l.map .int)]).own 1 (.list ([5, 2, 6, 4, 8, 1, 94].map D.int))) (.var 0) = some (.list (l.map .int)) := rfl
      rw [List.map_take]
      exact bs v0 (if_pos ⟨by decide, hb100 (by rw [List.length_map]; omega)⟩)
    exact bs hs rfl
end Mine
end

/- part QE -/
section
open PySem PySem.W
set_option maxRecDepth 100000
namespace Mine
noncomputable def wR (r : Rho) (a b c d e f g : Int) : Rho := ((((((r.freeze.set 4 (.int a)).set 5 (.int b)).set 6 (.int c)).set 7 (.int d)).set 8 (.int e)).set 9 (.int f)).set 10 (.int g)
theorem w_put {r : Rho} {a b c d e f g : Int} (h : r 1 = some (true, .list ([a, b, c, d, e, f, g].map D.int))) :
    exec C0 r (.assign [4, 5, 6, 7, 8, 9, 10] (.var 1)) = some (.next, wR r a b c d e f g) := by
  have e1 : ev C0 r (.var 1) = none := rget_own h
  have e2 : ev C0 r.freeze (.var 1) = some (.list ([a, b, c, d, e, f, g].map D.int)) := e_var (frz h)
  exact bs (evF_frz e1 e2) rfl
theorem w_11 (r : Rho) (a b c d e f g : Int) : ev C0 (wR r a b c d e f g) (.sub (.plain (.list [(.lit (.int 1)), (.lit (.int 1)), (.lit (.int 2)), (.bin .add (.lit (.int 3)) (.bin .mod (.bin .fdiv (.var 7) (.lit (.int 4))) (.lit (.int 1000))))])) (.bin .mod (.var 7) (.lit (.int 4)))) = some (.int (wSize d)) :=
  (rfl : _ = subD (.list [.int 1, .int 1, .int 2, .int (3 + (d.fdiv 4).fmod 1000)]) (.int (d.fmod 4))).trans (sub_pick _ _ _ _ _)
theorem w_12 (r : Rho) (a b c d e f g s : Int) : ev C0 ((wR r a b c d e f g).set 11 (.int s)) (.sub (.plain (.list [(.lit (.int 0)), (.lit (.int 0)), (.lit (.int 1)), (.bin .sub (.bin .mod (.bin .fdiv (.var 8) (.lit (.int 4))) (.bin .pow (.lit (.int 10)) (.lit (.int 6)))) (.lit (.int 500000)))])) (.bin .mod (.var 8) (.lit (.int 4)))) = some (.int (wGround e)) :=
  (rfl : _ = subD (.list [.int 0, .int 0, .int 1, .int ((e.fdiv 4).fmod 1000000 - 500000)]) (.int (e.fmod 4))).trans (sub_pick _ _ _ _ _)
theorem w_13 (r : Rho) (a b c d e f g s h : Int) : ev C0 (((wR r a b c d e f g).set 11 (.int s)).set 12 (.int h)) (.sub (.plain (.list [(.lit (.int 1)), (.neg (.lit (.int 1))), (.lit (.int 2)), (.bin .sub (.neg (.lit (.int 3))) (.bin .mod (.bin .fdiv (.var 9) (.lit (.int 4))) (.lit (.int 1000))))])) (.bin .mod (.var 9) (.lit (.int 4)))) = some (.int (wLead f)) :=
  (rfl : _ = subD (.list [.int 1, .int (-1), .int 2, .int (-3 - (f.fdiv 4).fmod 1000)]) (.int (f.fmod 4))).trans (sub_pick _ _ _ _ _)
end Mine
end

/- part QF -/
section
open PySem PySem.W
set_option maxRecDepth 100000
namespace Mine
/- ground + size * (x % k - 4) -/
theorem w_lin {C : Cx} {r : Rho} {i j k : Nat} {h s x n o : Int} (hi : ev C r (.var i) = some (.int h)) (hj : ev C r (.var j) = some (.int s)) (hk : ev C r (.var k) = some (.int x)) (hn : 0 < n ∧ n < 1073741824)
    (bs : bd 40 s) (bn : bd 40 (x.fmod n - o)) : ev C r (.bin .add (.var i) (.bin .mul (.var j) (.bin .sub (.bin .mod (.var k) (.lit (.int n))) (.lit (.int o))))) = some (.int (h + s * (x.fmod n - o))) := by
  have e1 : ev C r (.bin .mod (.var k) (.lit (.int n))) = some (.int (x.fmod n)) := e_bin hk rfl (if_pos hn)
  have e2 : ev C r (.bin .sub (.bin .mod (.var k) (.lit (.int n))) (.lit (.int o))) = some (.int (x.fmod n - o)) := e_bin e1 rfl (b_sub _ _)
  exact e_bin hi (e_bin hj e2 (b_mul (ok_of bs bn))) (b_add _ _)
theorem bd_of {n : Nat} {x : Int} {k : Nat} (h : x.natAbs ≤ k) (hk : k < 2 ^ n := by decide) : bd n x := by unfold bd; omega
theorem F_world (l : List Int) (h : l.length ≤ 63) : ∃ L f m q v w : Int, L ≠ 0 ∧ bd 12 L ∧ bd 24 f ∧ bd 24 m ∧ bd 28 q ∧ bd 24 v ∧ 0 ≤ w ∧
    F_law_world [.list (l.map .int)] = some (.tup [.int L, .int f, .int m, .int q, .list [.int 0, .int f, .int m, .int v], .int w]) := by
  refine bC fun z_ => ?_
  (obtain ⟨r, a, b, c, d, e, f, g, hb, h1, ef⟩ := w_cells l h) <;> refine z_ ?_ <;> clear z_
  have sz := wSize_b d
  have gr := wGround_b e
  have ld := wLead_b f
  have fa := fm (n := 9) a
  have fb := fm (n := 9) b
  have fc' := fm (n := 14) c
  have fg := fm (n := 13) g
  have fg3 := fm (n := 3) (g.fdiv 13)
  have sb : bd 10 (wSize d) := bd_of (k := 1002) (by omega)
  have gb : bd 20 (wGround e) := bd_of (k := 500000) (by omega)
  have ba : bd 3 (a.fmod 9 - 4) := bd_of (k := 4) (by omega)
  have bb : bd 3 (b.fmod 9 - 4) := bd_of (k := 4) (by omega)
  have bc : bd 4 (c.fmod 14 - 4) := bd_of (k := 9) (by omega)
  have bg : bd 3 (g.fmod 13 - 6) := bd_of (k := 6) (by omega)
  refine ⟨wLead f, wGround e + wSize d * (a.fmod 9 - 4), wGround e + wSize d * (b.fmod 9 - 4), wSize d * wSize d * (c.fmod 14 - 4), wGround e + wSize d * (g.fmod 13 - 6) + (g.fdiv 13).fmod 3 - 1, g.fdiv 39, ld.1, bd_of (k := 1002) (by omega), (gb.add ((sb.mul ba).mono (by omega))).mono (by omega), (gb.add ((sb.mul bb).mono (by omega))).mono (by omega), ((sb.mul sb).mul bc).mono (by omega), ?_, ?_, ?_⟩
  · have k1 : bd 22 (wGround e + wSize d * (g.fmod 13 - 6) + (g.fdiv 13).fmod 3) := (gb.add ((sb.mul bg).mono (by omega))).add (bd_of (n := 21) (k := 3) (by omega))
    have k2 : bd 23 (wGround e + wSize d * (g.fmod 13 - 6) + (g.fdiv 13).fmod 3 + -1) := (k1.add (bd.lit (n := 22) (x := -1)))
    exact k2.mono (by omega)
  · have := hb g (by simp); rw [Int.fdiv_eq_ediv_of_nonneg _ (by decide)]; omega
  · show run C0 ss_law_world [.list (l.map .int)] = _
    have go : ∀ R, R = (((wR r a b c d e f g).set 11 (.int (wSize d))).set 12 (.int (wGround e))).set 13 (.int (wLead f)) →
        ∃ R', execs C0 R [.assign [14, 15, 16] (.tup [(.bin .add (.var 12) (.bin .mul (.var 11) (.bin .sub (.bin .mod (.var 4) (.lit (.int 9))) (.lit (.int 4))))), (.bin .add (.var 12) (.bin .mul (.var 11) (.bin .sub (.bin .mod (.var 5) (.lit (.int 9))) (.lit (.int 4))))), (.bin .mul (.bin .mul (.var 11) (.var 11)) (.bin .sub (.bin .mod (.var 6) (.lit (.int 14))) (.lit (.int 4))))]), .ret (.tup [(.var 13), (.var 14), (.var 15), (.var 16), (.list [(.lit (.int 0)), (.var 14), (.var 15), (.bin .sub (.bin .add (.bin .add (.var 12) (.bin .mul (.var 11) (.bin .sub (.bin .mod (.var 10) (.lit (.int 13))) (.lit (.int 6))))) (.bin .mod (.bin .fdiv (.var 10) (.lit (.int 13))) (.lit (.int 3)))) (.lit (.int 1)))]), (.bin .fdiv (.var 10) (.lit (.int 39)))])] = some (.ret (.tup [.int (wLead f), .int (wGround e + wSize d * (a.fmod 9 - 4)), .int (wGround e + wSize d * (b.fmod 9 - 4)), .int (wSize d * wSize d * (c.fmod 14 - 4)), .list [.int 0, .int (wGround e + wSize d * (a.fmod 9 - 4)), .int (wGround e + wSize d * (b.fmod 9 - 4)), .int (wGround e + wSize d * (g.fmod 13 - 6) + (g.fdiv 13).fmod 3 - 1)], .int (g.fdiv 39)]), R') := by
      intro R hR
      have v11 : ev C0 R (.var 11) = some (.int (wSize d)) := by subst hR; rfl
      have v12 : ev C0 R (.var 12) = some (.int (wGround e)) := by subst hR; rfl
      have v4 : ev C0 R (.var 4) = some (.int a) := by subst hR; rfl
      have v5 : ev C0 R (.var 5) = some (.int b) := by subst hR; rfl
      have v6 : ev C0 R (.var 6) = some (.int c) := by subst hR; rfl
      have e1 := w_lin (o := 4) v12 v11 v4 (n := 9) (by decide) (sb.mono (by omega)) (ba.mono (by omega))
      have e2 := w_lin (o := 4) v12 v11 v5 (n := 9) (by decide) (sb.mono (by omega)) (bb.mono (by omega))
      have e3 : ev C0 R (.bin .mul (.bin .mul (.var 11) (.var 11)) (.bin .sub (.bin .mod (.var 6) (.lit (.int 14))) (.lit (.int 4)))) = some (.int (wSize d * wSize d * (c.fmod 14 - 4))) := by
        have q1 : ev C0 R (.bin .mod (.var 6) (.lit (.int 14))) = some (.int (c.fmod 14)) := e_bin v6 rfl rfl
        exact e_bin (e_bin v11 v11 (b_mul (ok_of sb sb))) (e_bin q1 rfl (b_sub _ _)) (b_mul (ok_of (sb.mul sb) bc))
      have et := e_tup (e_cons e1 (e_cons e2 (e_cons e3 e_nil))) (hb100 (show 3 ≤ 1000 by decide))
      refine ⟨(((R.set 14 (.int (wGround e + wSize d * (a.fmod 9 - 4)))).set 15 (.int (wGround e + wSize d * (b.fmod 9 - 4)))).set 16 (.int (wSize d * wSize d * (c.fmod 14 - 4)))).freeze, ?_⟩
      rw [execs_next (r' := ((R.set 14 (.int (wGround e + wSize d * (a.fmod 9 - 4)))).set 15 (.int (wGround e + wSize d * (b.fmod 9 - 4)))).set 16 (.int (wSize d * wSize d * (c.fmod 14 - 4)))) (ex_put et rfl)]
      refine x_ret ?_
      subst hR
      have e4 := w_lin (C := C0) (r := (((((((wR r a b c d e f g).set 11 (.int (wSize d))).set 12 (.int (wGround e))).set 13 (.int (wLead f))).set 14 (.int (wGround e + wSize d * (a.fmod 9 - 4)))).set 15 (.int (wGround e + wSize d * (b.fmod 9 - 4)))).set 16 (.int (wSize d * wSize d * (c.fmod 14 - 4)))).freeze) (i := 12) (j := 11) (k := 10) (o := 6) rfl rfl rfl (n := 13) (by decide) (sb.mono (by omega)) (bg.mono (by omega))
      exact e_tup (e_cons rfl (e_cons rfl (e_cons rfl (e_cons rfl (e_cons (e_list (e_cons rfl (e_cons rfl (e_cons rfl (e_cons (e_bin (e_bin e4 rfl (b_add _ _)) rfl (b_sub _ _)) e_nil)))) (show 4 ≤ 100 by decide)) (e_cons rfl e_nil)))))) (hb100 (show 6 ≤ 1000 by decide))
    obtain ⟨R', hR'⟩ := go _ rfl
    refine run_of (r := R') ?_
    unfold ss_law_world
    rw [execs_next (r' := (Rho.args [.list (l.map .int)]).own 1 (.list ([5, 2, 6, 4, 8, 1, 94].map D.int))) rfl, execs_next ef, execs_next (w_put h1), execs_next (ex_assign (w_11 r a b c d e f g)), execs_next (ex_assign (w_12 r a b c d e f g _)), execs_next (ex_assign (w_13 r a b c d e f g _ _))]
    exact hR'
end Mine
end

/- part QG -/
section
open PySem PySem.W
set_option maxRecDepth 100000
namespace Mine
/- what a TupleComp of two keys says -/
noncomputable def cmpV (a g b h way turn : Int) : Int := if a < b then -way else if a > b then way else if g < h then -turn else if g > h then turn else 0
noncomputable abbrev cmpBody : List S := [.assign [5] (.sub (.var 1) (.var 3)), .assign [6] (.sub (.var 2) (.var 3)), .ifs (.plain (.cmp .lt (.var 5) (.var 6))) [.ret (.neg (.var 4))] [], .ifs (.plain (.cmp .gt (.var 5) (.var 6))) [.ret (.var 4)] []]
theorem cmp_turn {r : Rho} {i x y d : Int} {l1 l2 : List D} (h1 : r 1 = some (false, .tup l1)) (h2 : r 2 = some (false, .tup l2)) (s1 : subD (.tup l1) (.int i) = some (.int x)) (s2 : subD (.tup l2) (.int i) = some (.int y)) :
    ∃ r', r' 1 = some (false, .tup l1) ∧ r' 2 = some (false, .tup l2) ∧ ((r.put [3, 4] (.tup [.int i, .int d])).bind fun r1 => execs C0 r1 cmpBody) = some (if x < y then .ret (.int (-d)) else if x > y then .ret (.int d) else .next, r') := by
  show ∃ r', _ ∧ _ ∧ execs C0 ((r.set 3 (.int i)).set 4 (.int d)) cmpBody = _
  rw [execs_next (ex_assign (e_sub (o_var (set_k (set_k h1))) (e_var (set_k set_eq)) s1)), execs_next (ex_assign (e_sub (o_var (set_k (set_k (set_k h2)))) (e_var (set_k (set_k set_eq))) s2))]
  have k1 : ((((r.set 3 (.int i)).set 4 (.int d)).set 5 (.int x)).set 6 (.int y)) 1 = some (false, .tup l1) := set_k (set_k (set_k (set_k h1)))
  have k2 : ((((r.set 3 (.int i)).set 4 (.int d)).set 5 (.int x)).set 6 (.int y)) 2 = some (false, .tup l2) := set_k (set_k (set_k (set_k h2)))
  have k4 : ((((r.set 3 (.int i)).set 4 (.int d)).set 5 (.int x)).set 6 (.int y)) 4 = some (false, .int d) := set_k (set_k set_eq)
  have k5 : ((((r.set 3 (.int i)).set 4 (.int d)).set 5 (.int x)).set 6 (.int y)) 5 = some (false, .int x) := set_k set_eq
  have k6 : ((((r.set 3 (.int i)).set 4 (.int d)).set 5 (.int x)).set 6 (.int y)) 6 = some (false, .int y) := set_eq
  generalize (((r.set 3 (.int i)).set 4 (.int d)).set 5 (.int x)).set 6 (.int y) = r1 at *
  have t1 : evB C0 r1 (.plain (.cmp .lt (.var 5) (.var 6))) = some (decide (x < y)) := p_cmp (e_var k5) (e_var k6) (c_lt _ _)
  have t2 : evB C0 r1 (.plain (.cmp .gt (.var 5) (.var 6))) = some (decide (x > y)) := p_cmp (e_var k5) (e_var k6) (c_gt _ _)
  by_cases c1 : x < y
  · refine ⟨r1.freeze, frz k1, frz k2, ?_⟩
    rw [if_pos c1]
    exact execs_out (ex_true (t1.trans (congrArg some (decide_eq_true c1))) (x_ret (e_neg (e_var (frz k4)))))
  · rw [if_neg c1, execs_next (ex_false (t1.trans (congrArg some (decide_eq_false c1))))]
    by_cases c2 : x > y
    · refine ⟨r1.freeze, frz k1, frz k2, ?_⟩
      rw [if_pos c2]
      exact execs_one (ex_true (t2.trans (congrArg some (decide_eq_true c2))) (x_ret (e_var (frz k4))))
    · refine ⟨r1, k1, k2, ?_⟩
      rw [if_neg c2]
      exact execs_one (ex_false (t2.trans (congrArg some (decide_eq_false c2))))
theorem F_cmp {i j a g b h way turn : Int} {l1 l2 : List D} (s1 : subD (.tup l1) (.int i) = some (.int a)) (s2 : subD (.tup l2) (.int i) = some (.int b)) (s3 : subD (.tup l1) (.int j) = some (.int g)) (s4 : subD (.tup l2) (.int j) = some (.int h)) :
    F_compare [.inst 45 (.list [.tup [.int i, .int way], .tup [.int j, .int turn]]), .tup l1, .tup l2] = some (.int (cmpV a g b h way turn)) := by
  show run C0 ss_compare [.inst 45 (.list [.tup [.int i, .int way], .tup [.int j, .int turn]]), .tup l1, .tup l2] = _
  refine bC fun z_ => ?_
  (obtain ⟨r1, h1, h2, e1⟩ := cmp_turn (r := Rho.args [.inst 45 (.list [.tup [.int i, .int way], .tup [.int j, .int turn]]), .tup l1, .tup l2]) (d := way) rfl rfl s1 s2) <;> refine z_ ?_ <;> clear z_
  refine bC fun z_ => ?_
  (obtain ⟨r2, _, _, e2⟩ := cmp_turn (r := r1) (d := turn) h1 h2 s3 s4) <;> refine z_ ?_ <;> clear z_
  unfold cmpV
  by_cases c1 : a < b
  · rw [if_pos c1] at e1 ⊢
    exact run_of (execs_out (ex_for rfl (fo_ret e1)))
  · rw [if_neg c1] at e1 ⊢
    by_cases c2 : a > b
    · rw [if_pos c2] at e1 ⊢
      exact run_of (execs_out (ex_for rfl (fo_ret e1)))
    · rw [if_neg c2] at e1 ⊢
      by_cases c3 : g < h
      · rw [if_pos c3] at e2 ⊢
        exact run_of (execs_out (ex_for rfl (fo_cons e1 (fo_ret e2))))
      · rw [if_neg c3] at e2 ⊢
        by_cases c4 : g > h
        · rw [if_pos c4] at e2 ⊢
          exact run_of (execs_out (ex_for rfl (fo_cons e1 (fo_ret e2))))
        · rw [if_neg c4] at e2 ⊢
          exact run_of ((execs_next (ex_for rfl (fo_cons e1 (fo_cons e2 rfl)))).trans (x_ret (e_int (i := 0))))
end Mine
end

/- part QH -/
section
open PySem PySem.W
set_option maxRecDepth 100000
namespace Mine
/-! the statements of law, each by a name -/
noncomputable abbrev l0 : S := .assign [1, 2, 3, 4, 5, 6] (.call 94 [(.var 0)])
noncomputable abbrev l1 : S := .assign [7] (.tup [(.var 1), (.lit (.int 0)), (.lit (.int 0)), (.lit (.int 0)), (.dict1 (.lit (.int 0)) (.ite (.plain (.cmp .eq (.bin .mod (.var 6) (.lit (.int 2))) (.lit (.int 1)))) (.tup [(.var 1), (.neg (.var 1))]) (.var 1)))])
noncomputable abbrev l2 : S := .assign [8, 9] (.tup [(.call 106 [(.call 106 [(.var 7), (.var 3)]), (.var 3)]), (.call 99 [(.var 7), (.neg (.var 4)), (.lit (.int 0))])])
noncomputable abbrev l3 : S := .assign [10] (.list [(.dictOf (.sub (.var 8) (.lit (.int 4)))), (.dictOf (.sub (.var 9) (.lit (.int 4))))])
noncomputable abbrev l4 : S := .assign [11] (.call 106 [(.call 56 [(.var 8), (.var 9)]), (.var 2)])
noncomputable abbrev l5 : S := .assign [12] (.list [(.bin .mul (.bin .mul (.neg (.var 1)) (.var 2)) (.bin .sub (.bin .mul (.var 3) (.var 3)) (.var 4))), (.bin .mul (.var 1) (.bin .add (.bin .sub (.bin .mul (.var 3) (.var 3)) (.var 4)) (.bin .mul (.bin .mul (.lit (.int 2)) (.var 2)) (.var 3)))), (.bin .mul (.neg (.var 1)) (.bin .add (.bin .mul (.lit (.int 2)) (.var 3)) (.var 2))), (.var 1)])
noncomputable abbrev l6 : S := .ifs (.bor (.plain (.cmp .ne (.list [(.sub (.var 8) (.lit (.int 4))), (.sub (.var 9) (.lit (.int 4)))]) (.var 10))) (.bor (.plain (.cmp .ne (.slice (.var 11) .none (some (.lit (.int 4)))) (.tupleOf (.var 12)))) (.bor (.plain (.cmp .ne (.keysOf (.sub (.var 11) (.lit (.int 4)))) (.list [(.lit (.int 3)), (.lit (.int 2)), (.lit (.int 1)), (.lit (.int 0))]))) (.plain (.cmp .ne (.comp [38] [] (.plain (.slice (.var 11) .none (some (.lit (.int 4))))) (some (.not (.plain (.isinst (.var 38) .int)))) (.var 38)) (.list [])))))) [.ret (.lit (.bool false))] []
noncomputable abbrev l7 : S := .ownR 13 14 (.call 118 [(.var 11)]) (.list [(.var 11)])
noncomputable abbrev l8 : S := .fors [15] (.range (.lit (.int 3))) [.append 14 (.call 99 [(.sub (.var 14) (.neg (.lit (.int 1)))), (.lit (.int 1)), (.neg (.lit (.int 1)))])]
noncomputable abbrev l9 : S := .fors [16, 17] (.zip (.bin .add (.var 13) (.var 14)) (.bin .add (.slice (.list [(.lit (.int 4)), (.lit (.int 3)), (.lit (.int 4)), (.lit (.int 4))]) .none (some (.len (.var 13)))) (.list [(.lit (.int 4)), (.lit (.int 3)), (.lit (.int 2)), (.lit (.int 1))]))) [.assign [18] (.comp [45] [6] (.plain (.slice (.var 16) .none (some (.var 17)))) .none (.ite (.plain (.cmp .eq (.bin .mod (.var 6) (.lit (.int 2))) (.lit (.int 1)))) (.tup [(.var 45), (.neg (.var 45))]) (.var 45))), .ifs (.plain (.cmp .ne (.sorted (.sub (.var 16) (.lit (.int 4)))) (.listOf (.enum (.var 18))))) [.ret (.lit (.bool false))] []]
noncomputable abbrev l10 : S := .assign [19] (.comp [16] [] (.plain (.var 13)) .none (.sub (.var 16) (.call 111 [(.var 16)])))
noncomputable abbrev l11 : S := .assign [20] (.comp [16] [] (.plain (.var 13)) .none (.bin .mul (.sub (.var 16) (.call 111 [(.var 16)])) (.bin .pow (.neg (.lit (.int 1))) (.call 111 [(.var 16)]))))
noncomputable abbrev l12 : S := .assign [21, 22] (.tup [(.call 133 [(.call 128 [(.var 20)])]), (.cmp .eq (.bin .pow (.bin .sub (.var 2) (.var 3)) (.lit (.int 2))) (.var 4))])
noncomputable abbrev l13 : S := .ifs (.plain (.cmp .ne (.bin .sub (.var 21) (.call 133 [(.call 128 [(.var 19)])])) (.bin .add (.ite (.plain (.cmp .lt (.var 4) (.lit (.int 0)))) (.lit (.int 0)) (.ite (.plain (.cmp .eq (.var 4) (.lit (.int 0)))) (.lit (.int 1)) (.lit (.int 2)))) (.ite (.plain (.var 22)) (.lit (.int 0)) (.lit (.int 1)))))) [.ret (.lit (.bool false))] []
noncomputable abbrev l14 : S := .ownL 23 24 (.list []) (.bin .add (.var 20) (.var 19))
noncomputable abbrev l15 : S := .fors [25] (.plain (.var 5)) [.assign [26, 27] (.tup [(.call 123 [(.var 13), (.var 25)]), (.call 123 [(.var 14), (.var 25)])]), .assign [28] (.ite (.plain (.cmp .le (.var 2) (.var 25))) (.lit (.int 1)) (.lit (.int 0))), .assign [29] (.ite (.band (.plain (.cmp .ge (.var 4) (.lit (.int 0)))) (.bor (.plain (.cmp .le (.var 3) (.var 25))) (.plain (.cmp .le (.bin .pow (.bin .sub (.var 3) (.var 25)) (.lit (.int 2))) (.var 4))))) (.lit (.int 1)) (.lit (.int 0))), .assign [30] (.ite (.band (.plain (.cmp .ge (.var 4) (.lit (.int 0)))) (.band (.plain (.cmp .le (.var 3) (.var 25))) (.plain (.cmp .ge (.bin .pow (.bin .sub (.var 3) (.var 25)) (.lit (.int 2))) (.var 4))))) (.lit (.int 1)) (.lit (.int 0))), .assign [31, 32] (.tup [(.call 128 [(.var 26)]), (.bin .add (.bin .add (.ite (.plain (.var 22)) (.lit (.int 0)) (.var 28)) (.var 29)) (.ite (.plain (.cmp .gt (.var 4) (.lit (.int 0)))) (.var 30) (.lit (.int 0))))]), .ifs (.bor (.plain (.cmp .ne (.cmp .eq (.var 31) (.lit (.str (Str.ofString "")))) (.bor (.band (.var 22) (.cmp .eq (.var 25) (.var 2))) (.band (.cmp .eq (.var 4) (.lit (.int 0))) (.cmp .eq (.var 25) (.var 3)))))) (.bor (.band (.plain (.cmp .ne (.var 31) (.lit (.str (Str.ofString ""))))) (.plain (.cmp .ne (.bin .sub (.var 21) (.call 133 [(.var 31)])) (.var 32)))) (.not (.plain (.call 138 [(.var 31)]))))) [.ret (.lit (.bool false))] [], .append 23 (.bin .sub (.bin .sub (.bin .sub (.bin .sub (.lit (.int 3)) (.call 133 [(.call 128 [(.var 27)])])) (.var 28)) (.var 29)) (.var 30)), .assign [24] (.bin .add (.bin .add (.var 24) (.var 26)) (.var 27))]
noncomputable abbrev l16 : S := .assign [33, 34, 35] (.tup [(.bin .sub (.lit (.int 1)) (.bin .mul (.bin .mod (.bin .fdiv (.var 6) (.lit (.int 2))) (.lit (.int 2))) (.lit (.int 2)))), (.bin .sub (.lit (.int 1)) (.bin .mul (.bin .mod (.bin .fdiv (.var 6) (.lit (.int 4))) (.lit (.int 2))) (.lit (.int 2)))), (.listOf (.zip (.var 5) (.var 23)))])
noncomputable abbrev l17 : S := .assign [36, 37] (.tup [(.call 45 [(.list [(.tup [(.lit (.int 0)), (.var 33)]), (.tup [(.lit (.int 1)), (.var 34)])])]), (.call 45 [(.list [(.tup [(.lit (.int 1)), (.var 33)]), (.tup [(.lit (.int 0)), (.var 34)])])])])
noncomputable abbrev l18 : S := .fors [38, 39] (.plain (.comp2 38 39 [35] (.plain (.var 35)) (.plain (.var 35)) (.tup [(.var 38), (.var 39)]))) [.assign [40, 41] (.tup [(.list [(.call 42 ((.var 36) :: [(.var 38), (.var 39)])), (.call 42 ((.var 37) :: [(.var 38), (.var 39)]))]), (.bin .sub (.cmp .gt (.sub (.var 38) (.lit (.int 0))) (.sub (.var 39) (.lit (.int 0)))) (.cmp .lt (.sub (.var 38) (.lit (.int 0))) (.sub (.var 39) (.lit (.int 0)))))]), .ifs (.bor (.plain (.cmp .ne (.var 40) (.list [(.bin .mul (.var 33) (.var 41)), (.bin .mul (.ite (.plain (.cmp .eq (.sub (.var 38) (.lit (.int 1))) (.sub (.var 39) (.lit (.int 1))))) (.var 34) (.var 33)) (.var 41))]))) (.plain (.cmp .ne (.comp [38] [] (.plain (.var 40)) (some (.bor (.plain (.isinst (.var 38) .bool)) (.not (.plain (.isinst (.var 38) .int))))) (.var 38)) (.list [])))) [.ret (.lit (.bool false))] []]
noncomputable abbrev l19 : S := .assign [42] (.list [(.sub (.var 12) (.lit (.int 3))), (.sub (.var 12) (.lit (.int 2))), (.bin .mul (.bin .sub (.bin .mul (.sub (.var 12) (.lit (.int 2))) (.sub (.var 12) (.lit (.int 1)))) (.bin .mul (.sub (.var 12) (.lit (.int 3))) (.sub (.var 12) (.lit (.int 0))))) (.sub (.var 12) (.lit (.int 2)))), (.sub (.var 12) (.lit (.int 0)))])
noncomputable abbrev l20 : S := .assign [43] (.ite (.band (.plain (.cmp .gt (.var 3) (.lit (.int 0)))) (.bor (.plain (.cmp .lt (.var 4) (.lit (.int 0)))) (.plain (.cmp .gt (.bin .mul (.var 3) (.var 3)) (.var 4))))) (.lit (.int 2)) (.ite (.band (.plain (.cmp .ge (.var 4) (.lit (.int 0)))) (.bor (.plain (.cmp .gt (.var 3) (.lit (.int 0)))) (.plain (.cmp .lt (.bin .mul (.var 3) (.var 3)) (.var 4))))) (.lit (.int 1)) (.lit (.int 0))))
noncomputable abbrev l21 : S := .ifs (.band (.plain (.mem true (.lit (.int 0)) (.var 42))) (.plain (.cmp .ne (.call 133 [(.call 128 [(.var 42)])]) (.bin .add (.var 43) (.ite (.plain (.cmp .gt (.var 2) (.lit (.int 0)))) (.lit (.int 1)) (.lit (.int 0))))))) [.ret (.lit (.bool false))] []
noncomputable abbrev l22 : S := .ifs (.plain (.cmp .ne (.comp [46] [4] (.plain (.var 23)) (some (.plain (.mem true (.var 46) (.plain (.ite (.plain (.cmp .ge (.var 4) (.lit (.int 0)))) (.list [(.lit (.int 0))]) (.list [(.lit (.int 0)), (.lit (.int 2))])))))) (.var 46)) (.list []))) [.ret (.lit (.bool false))] []
noncomputable abbrev l23 : S := .assign [44] (.comp [25] [] (.plain (.bin .add (.var 24) (.var 42))) .none (.list [(.cmp .is (.call 87 [(.var 25)]) (.cmp .eq (.var 25) (.lit (.int 0)))), (.cmp .is (.call 73 [(.bin .add (.lit (.int 256)) (.var 25))]) (.cmp .lt (.var 25) (.lit (.int 0)))), (.cmp .is (.call 80 [(.bin .add (.lit (.int 256)) (.var 25))]) (.cmp .ge (.var 25) (.lit (.int 0))))]))
noncomputable abbrev l24 : S := .ret (.cmp .eq (.var 44) (.bin .mul (.list [(.list [(.lit (.bool true)), (.lit (.bool true)), (.lit (.bool true))])]) (.len (.var 44))))
theorem ss_law_eq : ss_law = [l0, l1, l2, l3, l4, l5, l6, l7, l8, l9, l10, l11, l12, l13, l14, l15, l16, l17, l18, l19, l20, l21, l22, l23, l24] := rfl
end Mine
end

/- part QI -/
section
open PySem PySem.W
set_option maxRecDepth 100000
namespace Mine
structure Wd (L f m q v w : Int) (r : Rho) : Prop where
  h1 : r 1 = some (false, .int L)
  h2 : r 2 = some (false, .int f)
  h3 : r 3 = some (false, .int m)
  h4 : r 4 = some (false, .int q)
  h5 : r 5 = some (false, .list [.int 0, .int f, .int m, .int v])
  h6 : r 6 = some (false, .int w)
theorem Wd.of {L f m q v w : Int} {r r' : Rho} (T : Wd L f m q v w r) (h : ∀ i, 1 ≤ i → i ≤ 6 → r' i = r i) : Wd L f m q v w r' :=
  ⟨(h 1 (by decide) (by decide)).trans T.h1, (h 2 (by decide) (by decide)).trans T.h2, (h 3 (by decide) (by decide)).trans T.h3, (h 4 (by decide) (by decide)).trans T.h4, (h 5 (by decide) (by decide)).trans T.h5, (h 6 (by decide) (by decide)).trans T.h6⟩
theorem Wd.set {L f m q v w : Int} {r : Rho} {i : Nat} {d : D} (T : Wd L f m q v w r) (h : 7 ≤ i) : Wd L f m q v w (r.set i d) := T.of fun j _ _ => set_ne (by omega)
theorem Wd.own {L f m q v w : Int} {r : Rho} {i : Nat} {d : D} (T : Wd L f m q v w r) (h : 7 ≤ i) : Wd L f m q v w (r.own i d) := T.of fun j _ _ => own_ne (by omega)
theorem Wd.freeze {L f m q v w : Int} {r : Rho} (T : Wd L f m q v w r) : Wd L f m q v w r.freeze := ⟨frz T.h1, frz T.h2, frz T.h3, frz T.h4, frz T.h5, frz T.h6⟩
section
variable {C : Cx} {r : Rho}
/- the value in the law's dress -/
theorem e_dress {x : X} {c w : Int} (h6 : r 6 = some (false, .int w)) (h : ev C r x = some (.int c)) : ev C r (.ite (.plain (.cmp .eq (.bin .mod (.var 6) (.lit (.int 2))) (.lit (.int 1)))) (.tup [x, .neg x]) x) = some (val (decide (w.fmod 2 = 1)) c) := by
  have e1 : ev C r (.bin .mod (.var 6) (.lit (.int 2))) = some (.int (w.fmod 2)) := e_bin (e_var h6) e_int rfl
  rw [e_ite (p_cmp e1 e_int (c_eq _ _))]
  unfold val
  by_cases k : w.fmod 2 = 1
  · rw [if_pos (decide_eq_true k), if_pos (decide_eq_true k)]
    exact e_tup (e_cons h (e_cons (e_neg h) e_nil)) (hb100 (show 2 ≤ 1000 by decide))
  · rw [if_neg (fun z => k (of_decide_eq_true z)), if_neg (fun z => k (of_decide_eq_true z))]; exact h
theorem eqq_val (b : Bool) (c : Int) (n : Nat) : D.eqq (n + 1) (val b c) (val b c) = some true := by
  cases b
  · exact eqq_int
  · show eqqL (D.eqq n) [.int c, .int (-c)] [.int c, .int (-c)] = some true
    exact eqqL_cons eqq_int (eqqL_cons eqq_int rfl)
theorem eqqM_self {b : Bool} {n : Nat} {t : List (Int × Int)} (nd : (t.map (·.1)).Nodup) : ∀ s : List (Int × Int), (∀ p ∈ s, p ∈ t) → eqqM (D.eqq (n + 1)) (s.map fun p => (p.1, val b p.2)) (t.map fun p => (p.1, val b p.2)) = some true
  | [], _ => rfl
  | p :: s, h => by
    have hf : (t.map fun p => (p.1, val b p.2)).find? (fun z => decide (z.1 = p.1)) = some (p.1, val b p.2) := by
      have hp := h p (.head _)
      clear h
      induction t with
      | nil => cases hp
      | cons a t ih =>
        rw [List.map_cons, List.find?_cons]
        simp only [List.map_cons, List.nodup_cons] at nd
        rcases List.mem_cons.mp hp with e | hp
        · subst e; simp
        · have : a.1 ≠ p.1 := fun q => nd.1 (by rw [q]; exact List.mem_map.mpr ⟨p, hp, rfl⟩)
          simp only [this, decide_false]
          exact ih nd.2 hp
    exact bs (a := true) (by rw [hf]; exact eqq_val ..) (bs (eqqM_self nd s fun z hz => h z (.tail _ hz)) rfl)
theorem eqq_tb {b : Bool} {n : Nat} {t : List (Int × Int)} (nd : (t.map (·.1)).Nodup) : D.eqq (n + 2) (tbD b t) (tbD b t) = some true := by
  unfold tbD
  exact (if_pos rfl).trans (eqqM_self nd t fun _ h => h)
end
end Mine
end

/- part QJ -/
section
open PySem PySem.W
set_option maxRecDepth 100000
namespace Mine
noncomputable def st0 (L : Int) : P4 := ⟨[(0, L)], L, 0, 0, 0⟩
theorem st0_ok {L : Int} {n : Nat} (h : bd n L) : Ok n (st0 L) where
  c := ⟨h, Nat.pow_pos (by decide), Nat.pow_pos (by decide), Nat.pow_pos (by decide)⟩
  t := fun q hq => by
    simp only [st0, List.mem_singleton] at hq; subst hq
    exact ⟨show (0 : Int) ≤ 0 by decide, show (0 : Int) ≤ 3 by decide, h⟩
  nd := by simp [st0]
noncomputable abbrev wh (L f m q : Int) : P4 := W3 (Lc0 L f m q) (Lc1 L f m q) (Lc2 L f m) L
theorem wh_bd {L f m q : Int} (bL : bd 12 L) (bf : bd 24 f) (bm : bd 24 m) (bq : bd 28 q) : bd 86 (Lc0 L f m q) ∧ bd 86 (Lc1 L f m q) ∧ bd 86 (Lc2 L f m) := by
  have k1 : bd 49 (m * m - q) := (bm.mul bm).add (bq.neg.mono (by omega))
  refine ⟨((bL.neg.mul bf).mul k1).mono (by omega), ?_, ?_⟩
  · have k2 : bd 50 (2 * f * m) := ((bd.lit (n := 2) (x := 2)).mul bf).mul bm
    exact (bL.mul ((k1.mono (by omega)).add k2)).mono (by omega)
  · have k2 : bd 26 (2 * m) := (bd.lit (n := 2) (x := 2)).mul bm
    exact (bL.neg.mul (k2.add (bf.mono (by omega)))).mono (by omega)
theorem wh_ok {L f m q : Int} (bL : bd 12 L) (bf : bd 24 f) (bm : bd 24 m) (bq : bd 28 q) : Ok 86 (wh L f m q) := by
  refine bC fun z_ => ?_
  (obtain ⟨h0, h1, h2⟩ := wh_bd bL bf bm bq) <;> refine z_ ?_ <;> clear z_
  refine ⟨⟨h0, h1, h2, bL.mono (by omega)⟩, fun z hz => ?_, by simp [W3]⟩
  simp only [W3, List.mem_cons, List.not_mem_nil, or_false] at hz
  rcases hz with rfl | rfl | rfl | rfl
  · exact ⟨show (0 : Int) ≤ 3 by decide, show (3 : Int) ≤ 3 by decide, bL.mono (by omega)⟩
  · exact ⟨show (0 : Int) ≤ 2 by decide, show (2 : Int) ≤ 3 by decide, h2⟩
  · exact ⟨show (0 : Int) ≤ 1 by decide, show (1 : Int) ≤ 3 by decide, h1⟩
  · exact ⟨show (0 : Int) ≤ 0 by decide, show (0 : Int) ≤ 3 by decide, h0⟩
/- where the law stands ahead of its first loop -/
structure SA (L f m q v w : Int) (b : Bool) (r : Rho) : Prop where
  w : Wd L f m q v w r
  h11 : r 11 = some (false, (wh L f m q).d b)
  h12 : r 12 = some (false, .list [.int (Lc0 L f m q), .int (Lc1 L f m q), .int (Lc2 L f m), .int L])
  h13 : r 13 = some (false, .list ((chainP (wh L f m q)).map (P4.d b)))
  h14 : r 14 = some (true, .list ([wh L f m q].map (P4.d b)))
theorem phase_a {L f m q v w : Int} {args : List D} (hw : F_law_world args = some (.tup [.int L, .int f, .int m, .int q, .list [.int 0, .int f, .int m, .int v], .int w])) (hl : ∃ x, args = [x])
    (bL : bd 12 L) (bf : bd 24 f) (bm : bd 24 m) (bq : bd 28 q) :
    ∃ r, SA L f m q v w (decide (w.fmod 2 = 1)) r ∧ ∀ ss, execs C3 (Rho.args args) (l0 :: l1 :: l2 :: l3 :: l4 :: l5 :: l6 :: l7 :: ss) = execs C3 r ss := by
  obtain ⟨x, rfl⟩ := hl
  generalize hb : decide (w.fmod 2 = 1) = b
  -- the world
  have e0 : exec C3 (Rho.args [x]) l0 = some (.next, (((((((Rho.args [x]).set 1 (.int L)).set 2 (.int f)).set 3 (.int m)).set 4 (.int q)).set 5 (.list [.int 0, .int f, .int m, .int v])).set 6 (.int w))) :=
    ex_put (e_call (C := C3) (f := 94) (e_cons rfl e_nil) hw) rfl
  have T0 : Wd L f m q v w (((((((Rho.args [x]).set 1 (.int L)).set 2 (.int f)).set 3 (.int m)).set 4 (.int q)).set 5 (.list [.int 0, .int f, .int m, .int v])).set 6 (.int w)) := ⟨rfl, rfl, rfl, rfl, rfl, rfl⟩
  generalize (((((((Rho.args [x]).set 1 (.int L)).set 2 (.int f)).set 3 (.int m)).set 4 (.int q)).set 5 (.list [.int 0, .int f, .int m, .int v])).set 6 (.int w)) = r0 at *
  -- start
  have e1 : exec C3 r0 l1 = some (.next, r0.set 7 ((st0 L).d b)) := by
    refine ex_assign ?_
    have hd := e_dress (C := C3) (x := .var 1) T0.h6 (e_var T0.h1)
    rw [hb] at hd
    have hdi : ev C3 r0 (.dict1 (.lit (.int 0)) (.ite (.plain (.cmp .eq (.bin .mod (.var 6) (.lit (.int 2))) (.lit (.int 1)))) (.tup [(.var 1), .neg (.var 1)]) (.var 1))) = some (tbD b [(0, L)]) := by
      exact bs e_int (bs hd rfl)
    exact e_tup (e_cons (e_var T0.h1) (e_cons e_int (e_cons e_int (e_cons e_int (e_cons hdi e_nil))))) (hb100 (show 5 ≤ 1000 by decide))
  -- pair, more
  have o0 : Ok 12 (st0 L) := st0_ok bL
  have o1 := o0.less bm
  have o2 := o1.less bm
  have o3 := o0.times (f := -q) (up := 0) bq.neg
  have T1 := T0.set (i := 7) (d := (st0 L).d b) (by decide)
  have k7 : (r0.set 7 ((st0 L).d b)) 7 = some (false, (st0 L).d b) := set_eq
  generalize r0.set 7 ((st0 L).d b) = r1 at *
  have e2 : exec C3 r1 l2 = some (.next, (r1.set 8 ((lessP (lessP (st0 L) m) m).d b)).set 9 ((timesP (-q) 0 (st0 L)).d b)) := by
    have a1 : ev C3 r1 (.call 106 [(.call 106 [(.var 7), (.var 3)]), (.var 3)]) = _ := e_call (C := C3) (f := 106) (e_cons (e_call (C := C3) (f := 106) (e_cons (e_var k7) (e_cons (e_var T1.h3) e_nil)) (F_lessP o0 bm (by omega) (by omega))) (e_cons (e_var T1.h3) e_nil)) (F_lessP o1 bm (by omega) (by omega))
    have a2 : ev C3 r1 (.call 99 [(.var 7), (.neg (.var 4)), (.lit (.int 0))]) = _ := e_call (C := C3) (f := 99) (e_cons (e_var k7) (e_cons (e_neg (e_var T1.h4)) (e_cons e_int e_nil))) (F_timesP o0 bq.neg (by decide))
    exact ex_put (e_tup (e_cons a1 (e_cons a2 e_nil)) (hb100 (show 2 ≤ 1000 by decide))) rfl
  have T2 := (T1.set (i := 8) (d := (lessP (lessP (st0 L) m) m).d b) (by decide)).set (i := 9) (d := (timesP (-q) 0 (st0 L)).d b) (by decide)
  have k8 : ((r1.set 8 ((lessP (lessP (st0 L) m) m).d b)).set 9 ((timesP (-q) 0 (st0 L)).d b)) 8 = some (false, (lessP (lessP (st0 L) m) m).d b) := (set_ne (by decide)).trans set_eq
  have k9 : ((r1.set 8 ((lessP (lessP (st0 L) m) m).d b)).set 9 ((timesP (-q) 0 (st0 L)).d b)) 9 = some (false, (timesP (-q) 0 (st0 L)).d b) := set_eq
  generalize (r1.set 8 ((lessP (lessP (st0 L) m) m).d b)).set 9 ((timesP (-q) 0 (st0 L)).d b) = r2 at *
  generalize hpr : lessP (lessP (st0 L) m) m = pr at *
  generalize hmo : timesP (-q) 0 (st0 L) = mo at *
  have tabs : ∀ (r : Rho), r 8 = some (false, pr.d b) → r 9 = some (false, mo.d b) → ev C3 r (.sub (.var 8) (.lit (.int 4))) = some (tbD b pr.t) ∧ ev C3 r (.sub (.var 9) (.lit (.int 4))) = some (tbD b mo.t) := fun r g8 g9 =>
    ⟨e_sub (o_var g8) e_int sub_tab, e_sub (o_var g9) e_int sub_tab⟩
  have e3 : exec C3 r2 l3 = some (.next, r2.set 10 (.list [tbD b pr.t, tbD b mo.t])) := by
    obtain ⟨t8, t9⟩ := tabs r2 k8 k9
    have d8 : ev C3 r2 (.dictOf (.sub (.var 8) (.lit (.int 4)))) = some (tbD b pr.t) := by
      have := o2.len
      exact bs t8 (if_pos (hb100 (by rw [List.length_map]; omega)))
    have d9 : ev C3 r2 (.dictOf (.sub (.var 9) (.lit (.int 4)))) = some (tbD b mo.t) := by
      have := o3.len
      exact bs t9 (if_pos (hb100 (by rw [List.length_map]; omega)))
    exact ex_assign (e_list (e_cons d8 (e_cons d9 e_nil)) (show 2 ≤ 100 by decide))
  have T3 := T2.set (i := 10) (d := .list [tbD b pr.t, tbD b mo.t]) (by decide)
  have m8 : (r2.set 10 (.list [tbD b pr.t, tbD b mo.t])) 8 = some (false, pr.d b) := (set_ne (by decide)).trans k8
  have m9 : (r2.set 10 (.list [tbD b pr.t, tbD b mo.t])) 9 = some (false, mo.d b) := (set_ne (by decide)).trans k9
  have m10 : (r2.set 10 (.list [tbD b pr.t, tbD b mo.t])) 10 = some (false, .list [tbD b pr.t, tbD b mo.t]) := set_eq
  generalize r2.set 10 (.list [tbD b pr.t, tbD b mo.t]) = r3 at *
  -- the whole
  have hwh : lessP (addP pr mo) f = wh L f m q := by rw [← hpr, ← hmo]; exact whole_eq L f m q
  have e4 : exec C3 r3 l4 = some (.next, r3.set 11 ((wh L f m q).d b)) := by
    have oa : Ok 78 (addP pr mo) := ((o2.mono (m := 74) (by omega)).add (o3.mono (by omega))).mono (by omega)
    have a1 : ev C3 r3 (.call 106 [(.call 56 [(.var 8), (.var 9)]), (.var 2)]) = _ := e_call (C := C3) (f := 106) (e_cons (e_call (C := C3) (f := 56) (e_cons (e_var m8) (e_cons (e_var m9) e_nil)) (F_addP o2 o3)) (e_cons (e_var T3.h2) e_nil)) (F_lessP oa bf (by omega) (by omega))
    rw [hwh] at a1
    exact ex_assign a1
  have T4 := T3.set (i := 11) (d := (wh L f m q).d b) (by decide)
  have n8 : (r3.set 11 ((wh L f m q).d b)) 8 = some (false, pr.d b) := (set_ne (by decide)).trans m8
  have n9 : (r3.set 11 ((wh L f m q).d b)) 9 = some (false, mo.d b) := (set_ne (by decide)).trans m9
  have n10 : (r3.set 11 ((wh L f m q).d b)) 10 = some (false, .list [tbD b pr.t, tbD b mo.t]) := (set_ne (by decide)).trans m10
  have n11 : (r3.set 11 ((wh L f m q).d b)) 11 = some (false, (wh L f m q).d b) := set_eq
  generalize r3.set 11 ((wh L f m q).d b) = r4 at *
  -- the coefficients due
  generalize hdue : D.list [.int (Lc0 L f m q), .int (Lc1 L f m q), .int (Lc2 L f m), .int L] = due
  have e5 : exec C3 r4 l5 = some (.next, r4.set 12 due) := by
    have v1 : ev C3 r4 (.var 1) = _ := e_var T4.h1
    have v2 : ev C3 r4 (.var 2) = _ := e_var T4.h2
    have v3 : ev C3 r4 (.var 3) = _ := e_var T4.h3
    have v4 : ev C3 r4 (.var 4) = _ := e_var T4.h4
    have k1 : bd 49 (m * m - q) := (bm.mul bm).add (bq.neg.mono (by omega))
    have s1 := e_sbt (e_mul v3 v3 bm bm) v4
    have a0 := e_mul (e_mul (e_neg v1) v2 bL.neg bf) s1 (bL.neg.mul bf) k1
    have k2 : bd 26 (2 * f) := (bd.lit (n := 2) (x := 2)).mul bf
    have a1 := e_mul v1 (e_add s1 (e_mul (e_mul e_int v2 (bd.lit (n := 2) (x := 2)) bf) v3 k2 bm)) bL ((k1.mono (m := 50) (by omega)).add (k2.mul bm))
    have k3 : bd 26 (2 * m) := (bd.lit (n := 2) (x := 2)).mul bm
    have a2 := e_mul (e_neg v1) (e_add (e_mul e_int v3 (bd.lit (n := 2) (x := 2)) bm) v2) bL.neg (k3.add (bf.mono (by omega)))
    have al := e_list (e_cons a0 (e_cons a1 (e_cons a2 (e_cons v1 e_nil)))) (show 4 ≤ 100 by decide)
    rw [← hdue]
    exact ex_assign al
  have T5 := T4.set (i := 12) (d := due) (by decide)
  have p8 : (r4.set 12 due) 8 = some (false, pr.d b) := (set_ne (by decide)).trans n8
  have p9 : (r4.set 12 due) 9 = some (false, mo.d b) := (set_ne (by decide)).trans n9
  have p10 : (r4.set 12 due) 10 = some (false, .list [tbD b pr.t, tbD b mo.t]) := (set_ne (by decide)).trans n10
  have p11 : (r4.set 12 due) 11 = some (false, (wh L f m q).d b) := (set_ne (by decide)).trans n11
  have p12 : (r4.set 12 due) 12 = some (false, due) := set_eq
  generalize r4.set 12 due = r5 at *
  -- the first question
  have e6 : exec C3 r5 l6 = some (.next, r5) := by
    obtain ⟨t8, t9⟩ := tabs r5 p8 p9
    have q1 : evB C3 r5 (.plain (.cmp .ne (.list [(.sub (.var 8) (.lit (.int 4))), (.sub (.var 9) (.lit (.int 4)))]) (.var 10))) = some false := by
      refine p_ne (e_list (e_cons t8 (e_cons t9 e_nil)) (show 2 ≤ 100 by decide)) (e_var p10) ?_
      exact (show eqqL (D.eqq 7) [tbD b pr.t, tbD b mo.t] [tbD b pr.t, tbD b mo.t] = some true from eqqL_cons (eqq_tb o2.nd) (eqqL_cons (eqq_tb o3.nd) rfl))
    have sl : ev C3 r5 (.slice (.var 11) .none (some (.lit (.int 4)))) = some (.tup [.int (Lc0 L f m q), .int (Lc1 L f m q), .int (Lc2 L f m), .int L]) := by
      exact bs (e_var p11) rfl
    have q2 : evB C3 r5 (.plain (.cmp .ne (.slice (.var 11) .none (some (.lit (.int 4)))) (.tupleOf (.var 12)))) = some false := by
      subst hdue
      refine p_ne sl (e_tupleOf (e_var p12) (hb100 (show 4 ≤ 1000 by decide))) ?_
      show eqqL (D.eqq 7) [.int (Lc0 L f m q), .int (Lc1 L f m q), .int (Lc2 L f m), .int L] [.int (Lc0 L f m q), .int (Lc1 L f m q), .int (Lc2 L f m), .int L] = some true
      exact eqqL_cons eqq_int (eqqL_cons eqq_int (eqqL_cons eqq_int (eqqL_cons eqq_int rfl)))
    have q3 : evB C3 r5 (.plain (.cmp .ne (.keysOf (.sub (.var 11) (.lit (.int 4)))) (.list [(.lit (.int 3)), (.lit (.int 2)), (.lit (.int 1)), (.lit (.int 0))]))) = some false := by
      have : ev C3 r5 (.keysOf (.sub (.var 11) (.lit (.int 4)))) = some (.list [.int 3, .int 2, .int 1, .int 0]) := by
        have t11 : ev C3 r5 (.sub (.var 11) (.lit (.int 4))) = some (tbD b (wh L f m q).t) := e_sub (o_var p11) e_int sub_tab
        exact bs t11 rfl
      exact p_ne this rfl rfl
    have q4 : evB C3 r5 (.plain (.cmp .ne (.comp [38] [] (.plain (.slice (.var 11) .none (some (.lit (.int 4))))) (some (.not (.plain (.isinst (.var 38) .int)))) (.var 38)) (.list []))) = some false := by
      refine p_ne (y := .list []) (ev_comp (l := [.int (Lc0 L f m q), .int (Lc1 L f m q), .int (Lc2 L f m), .int L]) (q := []) (i_tup sl) (hb100 (show 4 ≤ 1000 by decide)) rfl (hb100 (show 0 ≤ 1000 by decide))) rfl rfl
    exact ex_false (b_or q1 (b_or q2 (b_or q3 q4)))
  -- Sturm's row
  have e7 : exec C3 r5 l7 = some (.next, (r5.set 13 (.list ((chainP (wh L f m q)).map (P4.d b)))).own 14 (.list ([wh L f m q].map (P4.d b)))) := by
    have a1 : ev C3 r5 (.call 118 [(.var 11)]) = _ := e_call (C := C3) (f := 118) (e_cons (e_var p11) e_nil) (F_chain (wh_ok bL bf bm bq) (by omega))
    exact bs a1 (bs (e_list (e_cons (e_var p11) e_nil) (show 1 ≤ 100 by decide)) rfl)
  refine ⟨(r5.set 13 (.list ((chainP (wh L f m q)).map (P4.d b)))).own 14 (.list ([wh L f m q].map (P4.d b))), ⟨(T5.set (by decide)).own (by decide), ?_, ?_, ?_, own_eq⟩, fun ss => ?_⟩
  · exact (own_ne (by decide)).trans ((set_ne (by decide)).trans p11)
  · subst hdue; exact (own_ne (by decide)).trans ((set_ne (by decide)).trans p12)
  · exact (own_ne (by decide)).trans set_eq
  · rw [execs_next e0, execs_next e1, execs_next e2, execs_next e3, execs_next e4, execs_next e5, execs_next e6, execs_next e7]
end Mine
end

/- part QK -/
section
open PySem PySem.W
set_option maxRecDepth 100000
namespace Mine
theorem forM_inv {f : D → Rho → Option (Fl × Rho)} {I : Rho → Prop} : ∀ (l : List D) (r : Rho), I r → (∀ d ∈ l, ∀ r, I r → ∃ r', f d r = some (.next, r') ∧ I r') → ∃ r', forM f l r = some (.next, r') ∧ I r'
  | [], r, h, _ => ⟨r, rfl, h⟩
  | d :: l, r, h, k => by
    refine bC fun z_ => ?_
    (obtain ⟨r1, e1, h1⟩ := k d (.head _) r h) <;> refine z_ ?_ <;> clear z_
    refine bC fun z_ => ?_
    (obtain ⟨r2, e2, h2⟩ := forM_inv l r1 h1 fun d hd => k d (.tail _ hd)) <;> refine z_ ?_ <;> clear z_
    exact ⟨r2, fo_cons e1 e2, h2⟩
noncomputable abbrev wh2 (L f m q : Int) : P4 := W2 (Lc0 L f m q) (Lc1 L f m q) (Lc2 L f m) L
noncomputable def S2 (L f m : Int) : P4 := ⟨[(1, 6 * L), (0, 2 * Lc2 L f m)], 2 * Lc2 L f m, 6 * L, 0, 0⟩
noncomputable def S3 (L : Int) : P4 := ⟨[(0, 6 * L)], 6 * L, 0, 0, 0⟩
noncomputable def slopes (L f m q : Int) : List P4 := [wh L f m q, wh2 L f m q, S2 L f m, S3 L]
structure SB (L f m q v w : Int) (b c : Bool) (r : Rho) : Prop where
  w : Wd L f m q v w r
  h12 : r 12 = some (false, .list [.int (Lc0 L f m q), .int (Lc1 L f m q), .int (Lc2 L f m), .int L])
  h13 : r 13 = some (false, .list ((chainP (wh L f m q)).map (P4.d b)))
  h14 : r 14 = some (c, .list ((slopes L f m q).map (P4.d b)))
theorem SB.of {L f m q v w : Int} {b c : Bool} {r r' : Rho} (T : SB L f m q v w b c r) (h : ∀ i, i ≤ 14 → 1 ≤ i → r' i = r i) : SB L f m q v w b c r' :=
  ⟨T.w.of fun i a b => h i (by omega) (by omega), (h 12 (by decide) (by decide)).trans T.h12, (h 13 (by decide) (by decide)).trans T.h13, (h 14 (by decide) (by decide)).trans T.h14⟩
theorem SB.set {L f m q v w : Int} {b c : Bool} {r : Rho} {i : Nat} {d : D} (T : SB L f m q v w b c r) (h : 15 ≤ i) : SB L f m q v w b c (r.set i d) := T.of fun j _ _ => set_ne (by omega)
theorem SB.own {L f m q v w : Int} {b c : Bool} {r : Rho} {i : Nat} {d : D} (T : SB L f m q v w b c r) (h : 15 ≤ i) : SB L f m q v w b c (r.own i d) := T.of fun j _ _ => own_ne (by omega)
theorem SB.freeze {L f m q v w : Int} {b c : Bool} {r : Rho} (T : SB L f m q v w b c r) : SB L f m q v w b false r.freeze := ⟨T.w.freeze, frz T.h12, frz T.h13, frz T.h14⟩
noncomputable abbrev slBody : List S := [.append 14 (.call 99 [(.sub (.var 14) (.neg (.lit (.int 1)))), (.lit (.int 1)), (.neg (.lit (.int 1)))])]
theorem last0 {b : Bool} {pre : List P4} {p : P4} (h : pre.length ≤ 100) : subD (.list ((pre ++ [p]).map (P4.d b))) (.int (-1)) = some (p.d b) := by
  have e : ((pre ++ [p]).map (P4.d b)).length = pre.length + 1 := by rw [List.length_map, List.length_append]; rfl
  exact sub_last (m := []) (k := pre.length + 0) (by omega) (by decide) (by omega) (by omega) (by rw [List.getElem?_map, at_app]; rfl)
theorem sl_turn {b : Bool} {n : Nat} {pre : List P4} {p p' : P4} {r : Rho} {s : Int} (h : Ok n p) (hn : n ≤ 1000) (hl : pre.length ≤ 50) (hp : timesP 1 (-1) p = p') (g : r 14 = some (true, .list ((pre ++ [p]).map (P4.d b)))) :
    ∃ r', ((r.put [15] (.int s)).bind fun r1 => execs C3 r1 slBody) = some (.next, r') ∧ r' 14 = some (true, .list (((pre ++ [p]) ++ [p']).map (P4.d b))) ∧ ∀ i, i ≠ 14 → i ≠ 15 → r' i = r i := by
  show ∃ r', execs C3 (r.set 15 (.int s)) slBody = some (.next, r') ∧ _
  have g1 : (r.set 15 (.int s)) 14 = some (true, .list ((pre ++ [p]).map (P4.d b))) := (set_ne (by decide)).trans g
  have a1 : ev C3 (r.set 15 (.int s)) (.call 99 [(.sub (.var 14) (.neg (.lit (.int 1)))), (.lit (.int 1)), (.neg (.lit (.int 1)))]) = _ := e_call (C := C3) (f := 99) (e_cons (e_sub (o_var g1) (e_neg e_int) (last0 (by omega))) (e_cons e_int (e_cons (e_neg e_int) e_nil))) (F_timesP (f := 1) (up := -1) h (bd.lit (n := 1)) (by decide))
  rw [hp] at a1
  refine ⟨_, execs_one (r' := (r.set 15 (.int s)).own 14 (.list ((pre ++ [p]).map (P4.d b) ++ [p'.d b]))) ?_, ?_, ?_⟩
  · have e : ((pre ++ [p]).map (P4.d b)).length = pre.length + 1 := by rw [List.length_map, List.length_append]; rfl
    exact ex_append a1 g1 (by omega)
  · rw [own_eq, List.map_append (l₂ := [p'])]; rfl
  · exact fun i h1 h2 => (own_ne h1).trans (set_ne h2)
theorem phase_b {L f m q v w : Int} {b : Bool} {r : Rho} (T : SA L f m q v w b r) (bL : bd 12 L) (bf : bd 24 f) (bm : bd 24 m) (bq : bd 28 q) :
    ∃ r', SB L f m q v w b true r' ∧ exec C3 r l8 = some (.next, r') := by
  have o0 := wh_ok bL bf bm bq
  have o1 := o0.times (f := 1) (up := -1) (bd.lit (n := 1))
  rw [slope1] at o1
  have o2 := o1.times (f := 1) (up := -1) (bd.lit (n := 1))
  rw [slope2] at o2
  refine bC fun z_ => ?_
  (obtain ⟨r1, e1, g1, f1⟩ := sl_turn (pre := []) (s := 0) o0 (by omega) (Nat.le_of_ble_eq_true rfl) (slope1 _ _ _ _) T.h14) <;> refine z_ ?_ <;> clear z_
  refine bC fun z_ => ?_
  (obtain ⟨r2, e2, g2, f2⟩ := sl_turn (pre := [wh L f m q]) (s := 1) o1 (by omega) (Nat.le_of_ble_eq_true rfl) (slope2 _ _ _ _) g1) <;> refine z_ ?_ <;> clear z_
  refine bC fun z_ => ?_
  (obtain ⟨r3, e3, g3, f3⟩ := sl_turn (pre := [wh L f m q, wh2 L f m q]) (s := 2) o2 (by omega) (Nat.le_of_ble_eq_true rfl) (slope3 _ _) g2) <;> refine z_ ?_ <;> clear z_
  refine ⟨r3, ⟨T.w.of fun i _ _ => ?_, ?_, ?_, g3⟩, ex_for (l := [.int 0, .int 1, .int 2]) rfl (fo_cons e1 (fo_cons e2 (fo_cons e3 rfl)))⟩
  · rw [f3 i (by omega) (by omega), f2 i (by omega) (by omega), f1 i (by omega) (by omega)]
  · rw [f3 _ (by decide) (by decide), f2 _ (by decide) (by decide), f1 _ (by decide) (by decide)]; exact T.h12
  · rw [f3 _ (by decide) (by decide), f2 _ (by decide) (by decide), f1 _ (by decide) (by decide)]; exact T.h13
/-! the table against the columns -/
noncomputable def enumV (b : Bool) : Int → List Int → List (Int × D)
  | _, [] => []
  | k, c :: cs => (k, val b c) :: enumV b (k + 1) cs
theorem enumV_D (b : Bool) : ∀ (cs : List Int) (n : Nat), enumD n (cs.map (val b)) = (enumV b n cs).map pairD
  | [], _ => rfl
  | c :: cs, n => congrArg (D.tup [.int n, val b c] :: ·) (enumV_D b cs (n + 1))
theorem enumV_len (b : Bool) : ∀ (cs : List Int) (k : Int), (enumV b k cs).length = cs.length
  | [], _ => rfl
  | _ :: cs, k => congrArg (· + 1) (enumV_len b cs (k + 1))
theorem eqqL_self {f : D → D → Option Bool} : ∀ {l : List D}, (∀ x ∈ l, f x x = some true) → eqqL f l l = some true
  | [], _ => rfl
  | a :: _, h => eqqL_cons (h a (.head _)) (eqqL_self fun x hx => h x (.tail _ hx))
theorem eqq_enum (b : Bool) (cs : List Int) (k : Int) : D.eqq 8 (.list ((enumV b k cs).map pairD)) (.list ((enumV b k cs).map pairD)) = some true := by
  refine (if_pos rfl).trans (eqqL_self fun x hx => ?_)
  have : ∀ (cs : List Int) (k : Int), x ∈ (enumV b k cs).map pairD → ∃ i c, x = .tup [.int i, val b c] := by
    intro cs
    induction cs with
    | nil => intro k h; cases h
    | cons c cs ih =>
      intro k h
      rcases List.mem_cons.mp h with h | h
      · exact ⟨k, c, h⟩
      · exact ih _ h
  refine bC fun z_ => ?_
  (obtain ⟨i, c, rfl⟩ := this cs k hx) <;> refine z_ ?_ <;> clear z_
  show eqqL (D.eqq 6) [.int i, val b c] [.int i, val b c] = some true
  exact eqqL_cons eqq_int (eqqL_cons (eqq_val _ _ _) rfl)
noncomputable abbrev chBody : List S := [.assign [18] (.comp [45] [6] (.plain (.slice (.var 16) .none (some (.var 17)))) .none (.ite (.plain (.cmp .eq (.bin .mod (.var 6) (.lit (.int 2))) (.lit (.int 1)))) (.tup [(.var 45), .neg (.var 45)]) (.var 45))), .ifs (.plain (.cmp .ne (.sorted (.sub (.var 16) (.lit (.int 4)))) (.listOf (.enum (.var 18))))) [.ret (.lit (.bool false))] []]
/- an entry and its size as the law wants them -/
noncomputable def Fine (b : Bool) (p : P4) (n : Nat) (cs : List Int) : Prop :=
  n ≤ 4 ∧ [p.c0, p.c1, p.c2, p.c3].take n = cs ∧ sortKeys.contains ((p.t.map fun z => (z.1, val b z.2)).map (·.1)) = true ∧ sortD (p.t.map fun z => (z.1, val b z.2)) = enumV b 0 cs
theorem ch_turn {L f m q v w : Int} {b c : Bool} {r : Rho} {p : P4} {n : Nat} {cs : List Int} (T : SB L f m q v w b c r) (hb : decide (w.fmod 2 = 1) = b) (h : Fine b p n cs) :
    ∃ r', ((r.put [16, 17] (.tup [p.d b, .int n])).bind fun r1 => execs C3 r1 chBody) = some (.next, r') ∧ SB L f m q v w b c r' := by
  refine bC fun z_ => ?_
  (obtain ⟨hn, hcs, hk, hs⟩ := h) <;> refine z_ ?_ <;> clear z_
  show ∃ r', execs C3 ((r.set 16 (p.d b)).set 17 (.int n)) chBody = some (.next, r') ∧ _
  have T1 : SB L f m q v w b c ((r.set 16 (p.d b)).set 17 (.int n)) := (T.set (by decide)).set (by decide)
  have g16 : ((r.set 16 (p.d b)).set 17 (.int n)) 16 = some (false, p.d b) := (set_ne (by decide)).trans set_eq
  have g17 : ((r.set 16 (p.d b)).set 17 (.int n)) 17 = some (false, .int n) := set_eq
  generalize (r.set 16 (p.d b)).set 17 (.int n) = r1 at *
  have hlen : cs.length ≤ 4 := by rw [← hcs, List.length_take]; omega
  have sl : ev C3 r1 (.slice (.var 16) .none (some (.var 17))) = some (.tup (cs.map .int)) := by
    refine e_slice (e_var g16) rfl (p_some (e_var g17)) ((if_pos ⟨by omega, show (n : Int) < (5 : Nat) by omega, hb100 (show 5 ≤ 1000 by decide)⟩).trans ?_)
    have : n = 0 ∨ n = 1 ∨ n = 2 ∨ n = 3 ∨ n = 4 := by omega
    rcases this with rfl | rfl | rfl | rfl | rfl <;> subst hcs <;> rfl
  have key : ∀ x : Int, compF C3 (r1.block [6]) [45] .none (.ite (.plain (.cmp .eq (.bin .mod (.var 6) (.lit (.int 2))) (.lit (.int 1)))) (.tup [(.var 45), .neg (.var 45)]) (.var 45)) (.int x) = some (some (val b x)) := by
    intro x
    have z6 : ((r1.block [6]).set 45 (.int x)) 6 = some (false, .int w) := set_k (blk T1.w.h6)
    have hd := e_dress (C := C3) (x := .var 45) z6 (e_var set_eq)
    rw [hb] at hd
    exact comp_one hd
  have ec : ev C3 r1 (.comp [45] [6] (.plain (.slice (.var 16) .none (some (.var 17)))) .none (.ite (.plain (.cmp .eq (.bin .mod (.var 6) (.lit (.int 2))) (.lit (.int 1)))) (.tup [(.var 45), .neg (.var 45)]) (.var 45))) = some (.list (cs.map (val b))) := ev_mapc (g := D.int) (h := val b) (i_tup sl) (by omega) fun x _ => key x
  have T2 := T1.set (i := 18) (d := .list (cs.map (val b))) (by decide)
  have k16 : (r1.set 18 (.list (cs.map (val b)))) 16 = some (false, p.d b) := (set_ne (by decide)).trans g16
  have k18 : (r1.set 18 (.list (cs.map (val b)))) 18 = some (false, .list (cs.map (val b))) := set_eq
  rw [execs_next (ex_assign ec)]
  generalize r1.set 18 (.list (cs.map (val b))) = r2 at *
  have es : ev C3 r2 (.sorted (.sub (.var 16) (.lit (.int 4)))) = some (.list ((enumV b 0 cs).map pairD)) := by
    have : ev C3 r2 (.sub (.var 16) (.lit (.int 4))) = some (tbD b p.t) := e_sub (o_var k16) e_int sub_tab
    exact bs this ((if_pos hk).trans (by rw [hs]))
  have ee : ev C3 r2 (.listOf (.enum (.var 18))) = some (.list ((enumV b 0 cs).map pairD)) := by
    exact bs (a := (enumV b 0 cs).map pairD) ((bs (e_var k18) rfl).trans (congrArg some (enumV_D b cs 0))) (if_pos (hb100 (by rw [List.length_map, enumV_len]; omega)))
  refine ⟨r2, execs_one (ex_false (p_ne es ee (eqq_enum b cs 0))), T2⟩
end Mine
end

/- part QL -/
section
open PySem PySem.W
set_option maxRecDepth 100000
namespace Mine
theorem fine_W3 (b : Bool) (c0 c1 c2 c3 : Int) : Fine b (W3 c0 c1 c2 c3) 4 [c0, c1, c2, c3] := ⟨by decide, rfl, rfl, rfl⟩
theorem fine_W2 (b : Bool) (c0 c1 c2 c3 : Int) : Fine b (W2 c0 c1 c2 c3) 3 [c1, 2 * c2, 3 * c3] := ⟨by decide, rfl, rfl, rfl⟩
theorem fine_E1 (b : Bool) (e0 e1 : Int) : Fine b (E1 e0 e1) 4 [e0, e1, 0, 0] := ⟨by decide, rfl, rfl, rfl⟩
theorem fine_V0 (b : Bool) (v : Int) : Fine b (V0 v) 4 [v, 0, 0, 0] := ⟨by decide, rfl, rfl, rfl⟩
theorem fine_S2 (b : Bool) (L f m : Int) : Fine b (S2 L f m) 2 [2 * Lc2 L f m, 6 * L] := ⟨by decide, rfl, rfl, rfl⟩
theorem fine_S3 (b : Bool) (L : Int) : Fine b (S3 L) 1 [6 * L] := ⟨by decide, rfl, rfl, rfl⟩
noncomputable abbrev szD (n : Nat) : List D := ([.int 4, .int 3, .int 4, .int 4] : List D).take n ++ [.int 4, .int 3, .int 2, .int 1]
theorem phase_c0 {L f m q v w : Int} {b : Bool} {r : Rho} {ch : List P4} (T : SB L f m q v w b true r) (hb : decide (w.fmod 2 = 1) = b) (hch : chainP (wh L f m q) = ch) (hl : ch.length ≤ 4)
    (hz : ∀ d ∈ zipD ((ch ++ slopes L f m q).map (P4.d b)) (szD ch.length), ∃ (p : P4) (n : Nat) (cs : List Int), d = .tup [p.d b, .int n] ∧ Fine b p n cs) :
    ∃ r', SB L f m q v w b false r' ∧ exec C3 r l9 = some (.next, r') := by
  have T1 := T.freeze
  have g13 := T1.h13
  rw [hch] at g13
  have n14 : ev C3 r (.var 14) = none := rget_own T.h14
  have i1 : evI C3 r (.zip (.bin .add (.var 13) (.var 14)) (.bin .add (.slice (.list [(.lit (.int 4)), (.lit (.int 3)), (.lit (.int 4)), (.lit (.int 4))]) .none (some (.len (.var 13)))) (.list [(.lit (.int 4)), (.lit (.int 3)), (.lit (.int 2)), (.lit (.int 1))]))) = none := by
    have : ev C3 r (.bin .add (.var 13) (.var 14)) = none := bs (e_var T.h13) (bn n14)
    exact bn this
  have a1 : ev C3 r.freeze (.bin .add (.var 13) (.var 14)) = some (.list ((ch ++ slopes L f m q).map (P4.d b))) := by
    refine e_bin (e_var g13) (e_var T1.h14) ?_
    rw [List.map_append]
    exact if_pos (hb100 (by rw [List.length_append, List.length_map]; show ch.length + 4 ≤ 1000; omega))
  have al : ev C3 r.freeze (.len (.var 13)) = some (.int ch.length) := by
    have e : (ch.map (P4.d b)).length = ch.length := List.length_map ..
    exact bs (o_var g13) ((if_pos (hb100 (by omega))).trans (by rw [e]))
  have a2 : ev C3 r.freeze (.bin .add (.slice (.list [(.lit (.int 4)), (.lit (.int 3)), (.lit (.int 4)), (.lit (.int 4))]) .none (some (.len (.var 13)))) (.list [(.lit (.int 4)), (.lit (.int 3)), (.lit (.int 2)), (.lit (.int 1))])) = some (.list (szD ch.length)) := by
    have as : ev C3 r.freeze (.slice (.list [(.lit (.int 4)), (.lit (.int 3)), (.lit (.int 4)), (.lit (.int 4))]) .none (some (.len (.var 13)))) = some (.list (([.int 4, .int 3, .int 4, .int 4] : List D).take ch.length)) := by
      have : ev C3 r.freeze (.list [(.lit (.int 4)), (.lit (.int 3)), (.lit (.int 4)), (.lit (.int 4))]) = some (.list [.int 4, .int 3, .int 4, .int 4]) := rfl
      exact e_slice this rfl (p_some al) rfl
    have al2 : ev C3 r.freeze (.list [(.lit (.int 4)), (.lit (.int 3)), (.lit (.int 2)), (.lit (.int 1))]) = some (.list [.int 4, .int 3, .int 2, .int 1]) := rfl
    refine e_bin as al2 ?_
    exact if_pos (hb100 (by rw [List.length_append, List.length_take]; show min ch.length 4 + 4 ≤ 1000; omega))
  have i2 : evI C3 r.freeze (.zip (.bin .add (.var 13) (.var 14)) (.bin .add (.slice (.list [(.lit (.int 4)), (.lit (.int 3)), (.lit (.int 4)), (.lit (.int 4))]) .none (some (.len (.var 13)))) (.list [(.lit (.int 4)), (.lit (.int 3)), (.lit (.int 2)), (.lit (.int 1))]))) = some (zipD ((ch ++ slopes L f m q).map (P4.d b)) (szD ch.length)) := by
    exact bs a1 (bs a2 rfl)
  obtain ⟨r', e', T'⟩ := forM_inv (f := fun d r => do let r' ← r.put [16, 17] d; execs C3 r' chBody) (I := SB L f m q v w b false) _ r.freeze T1 (fun d hd r hr => by
    refine bC fun z_ => ?_
    (obtain ⟨p, n, cs, rfl, hf⟩ := hz d hd) <;> refine z_ ?_ <;> clear z_
    exact ch_turn hr hb hf)
  refine ⟨r', T', ?_⟩
  exact ex_forF i1 i2 e'
/- what later steps want of Sturm's row -/
structure ChOk (ch : List P4) : Prop where
  len : ch.length ≤ 4
  ok : ∀ p ∈ ch, Ok 1600 p
  deg : ∀ p ∈ ch, 0 ≤ degP p
theorem chain_ok {w : P4} {n : Nat} (h : Ok n w) : ∀ p ∈ chainP w, Ok (16 * n + 153) p := by
  have h1 := h.times (f := 1) (up := -1) (bd.lit (n := 1))
  have step : ∀ (k N : Nat) (ch : List P4) (p q : P4), Ok k p → Ok k q → 4 * k + 21 ≤ N → (∀ x ∈ ch, Ok N x) → ∀ x ∈ stepC ch p q, Ok N x := by
    intro k N ch p q hp hq hN hc x hx
    have e1 := hp.elim (low := degP q) hq
    have e2 := e1.elim (low := degP q) (hq.mono (by omega))
    have e3 := e2.times (f := -1) (up := 0) (bd.lit (n := 1))
    rcases stepC_cases ch p q with e | e
    · rw [e] at hx; exact hc x hx
    · rw [e, List.mem_append, List.mem_singleton] at hx
      rcases hx with hx | rfl
      · exact hc x hx
      · exact e3.mono (by omega)
  have c1 := step (n + 3) (4 * n + 33) [w, timesP 1 (-1) w] w (timesP 1 (-1) w) (h.mono (by omega)) h1 (by omega) (fun x hx => by
    simp only [List.mem_cons, List.not_mem_nil, or_false] at hx
    rcases hx with rfl | rfl
    · exact h.mono (by omega)
    · exact h1.mono (by omega))
  unfold chainP
  dsimp only
  split
  · rename_i a b r e
    rw [e] at c1 ⊢
    have hr := c1 r (by simp)
    exact step (4 * n + 33) _ _ _ _ (h1.mono (by omega)) hr (by omega) fun x hx => (c1 x hx).mono (by omega)
  · exact step (n + 3) _ _ _ _ (h.mono (by omega)) h1 (by omega) fun x hx => (c1 x hx).mono (by omega)
theorem phase_c {L f m q v w : Int} {b : Bool} {r : Rho} (T : SB L f m q v w b true r) (hb : decide (w.fmod 2 = 1) = b) (hL : L ≠ 0) (bL : bd 12 L) (bf : bd 24 f) (bm : bd 24 m) (bq : bd 28 q) :
    ChOk (chainP (wh L f m q)) ∧ ∃ r', SB L f m q v w b false r' ∧ exec C3 r l9 = some (.next, r') := by
  have ok := chain_ok (wh_ok bL bf bm bq)
  have dw3 : degP (wh L f m q) = 3 := by simp [degP, deg, W3, hL]
  have dw2 : degP (wh2 L f m q) = 2 := deg_W2 hL
  refine bC fun z_ => ?_
  (obtain ⟨e0, e1, k1, k2, p1, p2, h1, h0, h⟩ := chain_form (f := f) (m := m) (q := q) hL) <;> refine z_ ?_ <;> clear z_
  rcases h with ⟨a, c, h⟩ | ⟨a, c, h⟩ | ⟨a, c, u, j1, j2, q1, q2, hj, h⟩
  · refine ⟨⟨by rw [h]; simp, fun p hp => (ok p hp).mono (by omega), fun p hp => ?_⟩, phase_c0 T hb h (by simp) ?_⟩
    · rw [h] at hp
      simp only [List.mem_cons, List.not_mem_nil, or_false] at hp
      rcases hp with rfl | rfl
      · rw [dw3]; decide
      · rw [dw2]; decide
    · intro d hd
      simp only [slopes, List.map_cons, List.map_nil, List.cons_append, List.nil_append, List.length_cons, List.length_nil, Nat.reduceAdd, szD, List.take_succ_cons, List.take_zero, zipD, List.mem_cons, List.not_mem_nil, or_false] at hd
      rcases hd with rfl | rfl | rfl | rfl | rfl | rfl
      · exact ⟨_, 4, _, rfl, fine_W3 ..⟩
      · exact ⟨_, 3, _, rfl, fine_W2 ..⟩
      · exact ⟨_, 4, _, rfl, fine_W3 ..⟩
      · exact ⟨_, 3, _, rfl, fine_W2 ..⟩
      · exact ⟨_, 2, _, rfl, fine_S2 ..⟩
      · exact ⟨_, 1, _, rfl, fine_S3 ..⟩
  · have hE : 0 ≤ degP (E1 e0 e1) := by
      rw [deg_E1]
      split
      · decide
      · split
        · decide
        · rename_i z1 z0
          have y1 : e1 = 0 := by omega
          have y0 : e0 = 0 := by omega
          refine absurd ?_ a
          have zA : rA (f - m) q = 0 := by
            rw [y1, Int.mul_zero] at h1
            exact (Int.mul_eq_zero.mp ((Int.mul_eq_zero.mp h1.symm).resolve_left (by omega))).resolve_left hL
          rw [y0, Int.mul_zero, zA] at h0
          have c' := (Int.mul_eq_zero.mp ((Int.mul_eq_zero.mp h0.symm).resolve_left (by omega))).resolve_left hL
          have d : (f - m) * q = 0 := by omega
          unfold rA at zA
          rcases Int.mul_eq_zero.mp d with d | d
          · rw [d] at zA; omega
          · subst d
            have : (f - m) * (f - m) = 0 := by omega
            rcases Int.mul_eq_zero.mp this with x | x <;> omega
    refine ⟨⟨by rw [h]; simp, fun p hp => (ok p hp).mono (by omega), fun p hp => ?_⟩, phase_c0 T hb h (by simp) ?_⟩
    · rw [h] at hp
      simp only [List.mem_cons, List.not_mem_nil, or_false] at hp
      rcases hp with rfl | rfl | rfl
      · rw [dw3]; decide
      · rw [dw2]; decide
      · exact hE
    · intro d hd
      simp only [slopes, List.map_cons, List.map_nil, List.cons_append, List.nil_append, List.length_cons, List.length_nil, Nat.reduceAdd, szD, List.take_succ_cons, List.take_zero, zipD, List.mem_cons, List.not_mem_nil, or_false] at hd
      rcases hd with rfl | rfl | rfl | rfl | rfl | rfl | rfl
      · exact ⟨_, 4, _, rfl, fine_W3 ..⟩
      · exact ⟨_, 3, _, rfl, fine_W2 ..⟩
      · exact ⟨_, 4, _, rfl, fine_E1 ..⟩
      · exact ⟨_, 4, _, rfl, fine_W3 ..⟩
      · exact ⟨_, 3, _, rfl, fine_W2 ..⟩
      · exact ⟨_, 2, _, rfl, fine_S2 ..⟩
      · exact ⟨_, 1, _, rfl, fine_S3 ..⟩
  · have z1 : e1 ≠ 0 := fun z => by
      rw [z, Int.mul_zero] at h1
      exact a ((Int.mul_eq_zero.mp ((Int.mul_eq_zero.mp h1.symm).resolve_left (by omega))).resolve_left hL)
    have zu : u ≠ 0 := fun z => by
      rw [z, Int.mul_zero] at hj
      exact mul_ne (by omega : j2 ≠ 0) (mul_ne hL c) hj.symm
    refine ⟨⟨by rw [h]; simp, fun p hp => (ok p hp).mono (by omega), fun p hp => ?_⟩, phase_c0 T hb h (by simp) ?_⟩
    · rw [h] at hp
      simp only [List.mem_cons, List.not_mem_nil, or_false] at hp
      rcases hp with rfl | rfl | rfl | rfl
      · rw [dw3]; decide
      · rw [dw2]; decide
      · rw [deg_E1, if_pos z1]; decide
      · rw [deg_V0, if_pos zu]; decide
    · intro d hd
      simp only [slopes, List.map_cons, List.map_nil, List.cons_append, List.nil_append, List.length_cons, List.length_nil, Nat.reduceAdd, szD, List.take_succ_cons, List.take_zero, zipD, List.mem_cons, List.not_mem_nil, or_false] at hd
      rcases hd with rfl | rfl | rfl | rfl | rfl | rfl | rfl | rfl
      · exact ⟨_, 4, _, rfl, fine_W3 ..⟩
      · exact ⟨_, 3, _, rfl, fine_W2 ..⟩
      · exact ⟨_, 4, _, rfl, fine_E1 ..⟩
      · exact ⟨_, 4, _, rfl, fine_V0 ..⟩
      · exact ⟨_, 4, _, rfl, fine_W3 ..⟩
      · exact ⟨_, 3, _, rfl, fine_W2 ..⟩
      · exact ⟨_, 2, _, rfl, fine_S2 ..⟩
      · exact ⟨_, 1, _, rfl, fine_S3 ..⟩
end Mine
end

/- part QM -/
section
open PySem PySem.W
set_option maxRecDepth 100000
namespace Mine
/- the first value of an entry -/
theorem e_top {b : Bool} {r : Rho} {p : P4} (h : r 16 = some (false, p.d b)) (hd : 0 ≤ degP p) : ev C3 r (.sub (.var 16) (.call 111 [(.var 16)])) = some (.int (hiE p)) := by
  have := (deg_range p).2
  exact e_sub (o_var h) (e_call (C := C3) (f := 111) (e_cons (e_var h) e_nil) F_degP) (sub_ent ⟨hd, by omega⟩)
theorem e_low {b : Bool} {r : Rho} {p : P4} (h : r 16 = some (false, p.d b)) (hd : 0 ≤ degP p) (ok : Ok 1600 p) : ev C3 r (.bin .mul (.sub (.var 16) (.call 111 [(.var 16)])) (.bin .pow (.neg (.lit (.int 1))) (.call 111 [(.var 16)]))) = some (.int (loE p)) := by
  have dr := (deg_range p).2
  have e2 : ev C3 r (.bin .pow (.neg (.lit (.int 1))) (.call 111 [(.var 16)])) = some (.int (if degP p = 1 ∨ degP p = 3 then -1 else 1)) := by
    have hc := e_call (C := C3) (r := r) (f := 111) (e_cons (e_var h) e_nil) F_degP
    refine e_bin (e_neg e_int) hc ?_
    have : degP p = 0 ∨ degP p = 1 ∨ degP p = 2 ∨ degP p = 3 := by omega
    rcases this with e | e | e | e <;> rw [e] <;> rfl
  refine e_mul (e_top h hd) e2 (n := 1600) (k := 1) (ok.cf _) ?_
  split <;> exact bd.lit
theorem e_chg {r : Rho} {x : X} {xs : List Int} (h : ev C3 r x = some (.list (xs.map .int))) (hl : xs.length ≤ 4) : ev C3 r (.call 133 [(.call 128 [x])]) = some (.int (sc xs)) :=
  e_call (C := C3) (f := 133) (e_cons (e_call (C := C3) (f := 128) (e_cons h e_nil) (F_signs hl)) e_nil) (F_changes (Nat.le_trans sgn_len hl))
theorem e_sq {C : Cx} {r : Rho} {x : X} {a : Int} {n : Nat} (h : ev C r x = some (.int a)) (hb : bd n a) (hn : n ≤ 64 := by omega) : ev C r (.bin .pow x (.lit (.int 2))) = some (.int (a * a)) := by
  refine e_bin h e_int ((if_pos ⟨by decide, by decide, hb.mono hn⟩).trans ?_)
  rw [show (2 : Int).toNat = 2 from rfl, Int.pow_succ, Int.pow_succ, Int.pow_zero, Int.one_mul]
theorem e_addL {C : Cx} {r : Rho} {x y : X} {a b : List Int} (h : ev C r x = some (.list (a.map .int))) (k : ev C r y = some (.list (b.map .int))) (hl : a.length + b.length ≤ 1000) : ev C r (.bin .add x y) = some (.list ((a ++ b).map .int)) := by
  rw [List.map_append]
  exact e_bin h k (if_pos (hb100 (by rw [List.length_append, List.length_map, List.length_map]; exact hl)))
structure SE (L f m q v w : Int) (b : Bool) (done : List Int) (r : Rho) : Prop where
  b : SB L f m q v w b false r
  h21 : r 21 = some (false, .int (lowN (f - m) q))
  h22 : r 22 = some (false, .bool (decide ((f - m) * (f - m) = q)))
  h23 : r 23 = some (true, .list (done.map fun y => .int (gapN (y - m) (f - m) q)))
  h24 : ∃ xs : List Int, xs.length ≤ 8 + 8 * done.length ∧ r 24 = some (false, .list (xs.map .int))
theorem phase_d {L f m q v w : Int} {b : Bool} {r : Rho} (T : SB L f m q v w b false r) (ck : ChOk (chainP (wh L f m q))) (hL : L ≠ 0) (bf : bd 24 f) (bm : bd 24 m) :
    ∃ r', SE L f m q v w b [] r' ∧ ∀ ss, execs C3 r (l10 :: l11 :: l12 :: l13 :: l14 :: ss) = execs C3 r' ss := by
  have en := ends (f := f) (m := m) (q := q) hL _ rfl
  generalize hch : chainP (wh L f m q) = ch at *
  have T' : r 13 = some (false, .list (ch.map (P4.d b))) := by rw [← hch]; exact T.h13
  have e10 : exec C3 r l10 = some (.next, r.set 19 (.list ((ch.map hiE).map .int))) := by
    refine ex_assign ?_
    rw [List.map_map]
    refine ev_mapc (i_list (e_var T')) (by have := ck.len; omega) fun p hp => comp_one (e_top set_eq (ck.deg p hp))
  have T1 := T.set (i := 19) (d := .list ((ch.map hiE).map .int)) (by decide)
  have a13 : (r.set 19 (.list ((ch.map hiE).map .int))) 13 = some (false, .list (ch.map (P4.d b))) := (set_ne (by decide)).trans T'
  have a19 : (r.set 19 (.list ((ch.map hiE).map .int))) 19 = some (false, .list ((ch.map hiE).map .int)) := set_eq
  generalize r.set 19 (.list ((ch.map hiE).map .int)) = r1 at *
  have e11 : exec C3 r1 l11 = some (.next, r1.set 20 (.list ((ch.map loE).map .int))) := by
    refine ex_assign ?_
    rw [List.map_map]
    refine ev_mapc (i_list (e_var a13)) (by have := ck.len; omega) fun p hp => comp_one (e_low set_eq (ck.deg p hp) (ck.ok p hp))
  have T2 := T1.set (i := 20) (d := .list ((ch.map loE).map .int)) (by decide)
  have b19 : (r1.set 20 (.list ((ch.map loE).map .int))) 19 = some (false, .list ((ch.map hiE).map .int)) := (set_ne (by decide)).trans a19
  have b20 : (r1.set 20 (.list ((ch.map loE).map .int))) 20 = some (false, .list ((ch.map loE).map .int)) := set_eq
  generalize r1.set 20 (.list ((ch.map loE).map .int)) = r2 at *
  have hlo : (ch.map loE).length ≤ 4 := by rw [List.length_map]; exact ck.len
  have hhi : (ch.map hiE).length ≤ 4 := by rw [List.length_map]; exact ck.len
  have bt : bd 25 (f - m) := bf.add bm.neg
  have e12 : exec C3 r2 l12 = some (.next, (r2.set 21 (.int (sc (ch.map loE)))).set 22 (.bool (decide ((f - m) * (f - m) = q)))) := by
    have c1 := e_chg (e_var b20) hlo
    have c2 := e_cmp (C := C3) (op := .eq) (e_sq (e_sbt (e_var T2.w.h2) (e_var T2.w.h3)) bt) (e_var T2.w.h4) (c_eq _ _)
    exact ex_put (e_tup (e_cons c1 (e_cons c2 e_nil)) (by simp [big])) rfl
  have T3 := (T2.set (i := 21) (d := .int (sc (ch.map loE))) (by decide)).set (i := 22) (d := .bool (decide ((f - m) * (f - m) = q))) (by decide)
  have c19 : ((r2.set 21 (.int (sc (ch.map loE)))).set 22 (.bool (decide ((f - m) * (f - m) = q)))) 19 = some (false, .list ((ch.map hiE).map .int)) := (set_ne (by decide)).trans ((set_ne (by decide)).trans b19)
  have c20 : ((r2.set 21 (.int (sc (ch.map loE)))).set 22 (.bool (decide ((f - m) * (f - m) = q)))) 20 = some (false, .list ((ch.map loE).map .int)) := (set_ne (by decide)).trans ((set_ne (by decide)).trans b20)
  have c21 : ((r2.set 21 (.int (sc (ch.map loE)))).set 22 (.bool (decide ((f - m) * (f - m) = q)))) 21 = some (false, .int (sc (ch.map loE))) := (set_ne (by decide)).trans set_eq
  have c22 : ((r2.set 21 (.int (sc (ch.map loE)))).set 22 (.bool (decide ((f - m) * (f - m) = q)))) 22 = some (false, .bool (decide ((f - m) * (f - m) = q))) := set_eq
  generalize (r2.set 21 (.int (sc (ch.map loE)))).set 22 (.bool (decide ((f - m) * (f - m) = q))) = r3 at *
  have e13 : exec C3 r3 l13 = some (.next, r3) := by
    have x1 := e_sbt (e_var c21) (e_chg (e_var c19) hhi)
    have x2 := ite_int (C := C3) (p_cmp (op := .lt) (e_var T3.w.h4) (e_int (i := 0)) (c_lt _ _)) (e_int (i := 0)) (ite_int (p_cmp (op := .eq) (e_var T3.w.h4) (e_int (i := 0)) (c_eq _ _)) (e_int (i := 1)) (e_int (i := 2)))
    have x3 := ite_int (C := C3) (p_of (e_var c22)) (e_int (i := 0)) (e_int (i := 1))
    have x4 := p_nei x1 (e_add x2 x3)
    have : (!decide ((sc (ch.map loE) : Int) - (sc (ch.map hiE) : Int) = (if decide (q < 0) = true then 0 else if decide (q = 0) = true then 1 else 2) + (if decide ((f - m) * (f - m) = q) = true then 0 else 1))) = false := by
      rw [en.1, en.2]
      simp only [decide_eq_true_eq, Bool.not_eq_false']
      by_cases z1 : q < 0
      · by_cases z2 : (f - m) * (f - m) = q <;> simp only [z1, z2, if_true, if_false] <;> omega
      · by_cases z3 : q = 0
        · subst z3
          by_cases z2 : (f - m) * (f - m) = 0 <;> simp only [z2, if_true, if_false] <;> simp <;> omega
        · by_cases z2 : (f - m) * (f - m) = q <;> simp only [z1, z2, z3, if_true, if_false] <;> omega
    rw [this] at x4
    exact ex_false x4
  have e14 : exec C3 r3 l14 = some (.next, (r3.own 23 (.list [])).set 24 (.list ((ch.map loE ++ ch.map hiE).map .int))) := by
    have x1 : ev C3 r3 (.bin .add (.var 20) (.var 19)) = some (.list ((ch.map loE ++ ch.map hiE).map .int)) := e_addL (e_var c20) (e_var c19) (by rw [List.length_map, List.length_map]; have := ck.len; omega)
    have x0 : ev C3 r3 (.list []) = some (.list []) := rfl
    exact bs x0 (bs x1 rfl)
  refine ⟨(r3.own 23 (.list [])).set 24 (.list ((ch.map loE ++ ch.map hiE).map .int)), ⟨(T3.own (by decide)).set (by decide), ?_, ?_, ?_, ⟨_, ?_, set_eq⟩⟩, fun ss => ?_⟩
  · rw [(set_ne (by decide)).trans ((own_ne (by decide)).trans c21), en.1]
  · exact (set_ne (by decide)).trans ((own_ne (by decide)).trans c22)
  · exact (set_ne (by decide)).trans own_eq
  · rw [List.length_append, List.length_map, List.length_map]; have := ck.len; omega
  · rw [execs_next e10, execs_next e11, execs_next e12, execs_next e13, execs_next e14]
end Mine
end

/- part QN -/
section
open PySem PySem.W
set_option maxRecDepth 100000
namespace Mine
theorem sstr_nil {l : List Bool} : sstr l = Str.ofString "" ↔ l = [] := by
  refine ⟨fun h => ?_, fun h => by subst h; rfl⟩
  cases l with
  | nil => rfl
  | cons a l =>
    have : (sstr (a :: l)).cps.size = (Str.ofString "").cps.size := by rw [h]
    have z : (Str.ofString "").cps.size = 0 := rfl
    rw [z] at this
    simp [sstr] at this
theorem sgn_L {L : Int} (hL : L ≠ 0) (xs : List Int) : (sgn (xs.map (L * ·)) = [] ↔ sgn xs = []) ∧ (sgn (xs.map (L * ·))).length = (sgn xs).length := by
  rcases ne_cases hL with h | h
  · rw [sgn_flip h]; simp
  · rw [sgn_scale h]; simp
theorem slopes_ok {L f m q : Int} (bL : bd 12 L) (bf : bd 24 f) (bm : bd 24 m) (bq : bd 28 q) : ∀ p ∈ slopes L f m q, Ok 95 p := by
  have o0 := wh_ok bL bf bm bq
  have o1 := o0.times (f := 1) (up := -1) (bd.lit (n := 1))
  rw [slope1] at o1
  have o2 := o1.times (f := 1) (up := -1) (bd.lit (n := 1))
  rw [slope2] at o2
  have o3 := o2.times (f := 1) (up := -1) (bd.lit (n := 1))
  rw [slope3] at o3
  intro p hp
  simp only [slopes, List.mem_cons, List.not_mem_nil, or_false] at hp
  rcases hp with rfl | rfl | rfl | rfl
  · exact o0.mono (by omega)
  · exact o1.mono (by omega)
  · exact o2.mono (by omega)
  · exact o3.mono (by omega)
/- the signs at a spot, for Sturm's row -/
theorem row_signs {L f m q : Int} (hL : L ≠ 0) (y : Int) : ∃ bs, sgn ((chainP (wh L f m q)).map (·.at y)) = bs ∧ bs.length ≠ 1 ∧ (bs = [] ↔ ((f - m) * (f - m) = q ∧ y = f) ∨ (q = 0 ∧ y = m)) ∧
    (bs ≠ [] → lowN (f - m) q = chg bs + (if (f - m) * (f - m) = q then 0 else heN (y - m) (f - m)) + lefN (y - m) q + (if 0 < q then rigN (y - m) q else 0)) := by
  have e := sturm_vals (f := f) (m := m) (q := q) hL y
  refine bC fun z_ => ?_
  (obtain ⟨c1, c2, c3⟩ := cnt (y - m) (f - m) q) <;> refine z_ ?_ <;> clear z_
  obtain ⟨l1, l2⟩ := sgn_L hL (bases (y - m) (f - m) q)
  refine ⟨_, e, by rw [l2]; exact c2, ?_, fun h => ?_⟩
  · rw [l1, c1]
    constructor
    · rintro (⟨a, b⟩ | ⟨a, b⟩)
      · exact .inl ⟨a, by omega⟩
      · exact .inr ⟨a, by omega⟩
    · rintro (⟨a, b⟩ | ⟨a, b⟩)
      · exact .inl ⟨a, by omega⟩
      · exact .inr ⟨a, by omega⟩
  · have := c3 (fun z => h (l1.mpr z))
    rw [heN_eq]
    have sce : chg (sgn ((bases (y - m) (f - m) q).map (L * ·))) = sc (bases (y - m) (f - m) q) := sc_scale hL _
    rw [sce]
    exact this
theorem slope_signs {L f m q : Int} (hL : L ≠ 0) (y : Int) : (3 - (sc ((slopes L f m q).map (·.at y)) : Int) - heN (y - m) (f - m) - lefN (y - m) q - rigN (y - m) q) = gapN (y - m) (f - m) q := by
  have e := fourier_vals L f m q y
  have e' : sgn ((slopes L f m q).map (·.at y)) = sgn ([gg (y - m) (f - m) q, g1 (y - m) (f - m) q, 3 * (y - m) - (f - m), 1].map (L * ·)) := e
  have : sc ((slopes L f m q).map (·.at y)) = fc (y - m) (f - m) q := by
    unfold sc; rw [e']; exact sc_scale hL _
  rw [this]; rfl
noncomputable abbrev spBody : List S := [.assign [26, 27] (.tup [(.call 123 [(.var 13), (.var 25)]), (.call 123 [(.var 14), (.var 25)])]), .assign [28] (.ite (.plain (.cmp .le (.var 2) (.var 25))) (.lit (.int 1)) (.lit (.int 0))), .assign [29] (.ite (.band (.plain (.cmp .ge (.var 4) (.lit (.int 0)))) (.bor (.plain (.cmp .le (.var 3) (.var 25))) (.plain (.cmp .le (.bin .pow (.bin .sub (.var 3) (.var 25)) (.lit (.int 2))) (.var 4))))) (.lit (.int 1)) (.lit (.int 0))), .assign [30] (.ite (.band (.plain (.cmp .ge (.var 4) (.lit (.int 0)))) (.band (.plain (.cmp .le (.var 3) (.var 25))) (.plain (.cmp .ge (.bin .pow (.bin .sub (.var 3) (.var 25)) (.lit (.int 2))) (.var 4))))) (.lit (.int 1)) (.lit (.int 0))), .assign [31, 32] (.tup [(.call 128 [(.var 26)]), (.bin .add (.bin .add (.ite (.plain (.var 22)) (.lit (.int 0)) (.var 28)) (.var 29)) (.ite (.plain (.cmp .gt (.var 4) (.lit (.int 0)))) (.var 30) (.lit (.int 0))))]), .ifs (.bor (.plain (.cmp .ne (.cmp .eq (.var 31) (.lit (.str (Str.ofString "")))) (.bor (.band (.var 22) (.cmp .eq (.var 25) (.var 2))) (.band (.cmp .eq (.var 4) (.lit (.int 0))) (.cmp .eq (.var 25) (.var 3)))))) (.bor (.band (.plain (.cmp .ne (.var 31) (.lit (.str (Str.ofString ""))))) (.plain (.cmp .ne (.bin .sub (.var 21) (.call 133 [(.var 31)])) (.var 32)))) (.not (.plain (.call 138 [(.var 31)]))))) [.ret (.lit (.bool false))] [], .append 23 (.bin .sub (.bin .sub (.bin .sub (.bin .sub (.lit (.int 3)) (.call 133 [(.call 128 [(.var 27)])])) (.var 28)) (.var 29)) (.var 30)), .assign [24] (.bin .add (.bin .add (.var 24) (.var 26)) (.var 27))]
theorem l15_eq : l15 = .fors [25] (.plain (.var 5)) spBody := rfl
theorem sp_turn {L f m q v w y : Int} {b : Bool} {done : List Int} {r : Rho} (T : SE L f m q v w b done r) (ck : ChOk (chainP (wh L f m q))) (hL : L ≠ 0) (bL : bd 12 L) (bf : bd 24 f) (bm : bd 24 m) (bq : bd 28 q) (by' : bd 24 y) (hd : done.length ≤ 10) :
    ∃ r', ((r.put [25] (.int y)).bind fun r1 => execs C3 r1 spBody) = some (.next, r') ∧ SE L f m q v w b (done ++ [y]) r' := by
  refine bC fun z_ => ?_
  (obtain ⟨T, h21, h22, h23, xs, hx, h24⟩ := T) <;> refine z_ ?_ <;> clear z_
  show ∃ r', execs C3 (r.set 25 (.int y)) spBody = some (.next, r') ∧ _
  have T0 := T.set (i := 25) (d := .int y) (by decide)
  have a21 := (set_ne (r := r) (i := 25) (d := .int y) (by decide)).trans h21
  have a22 := (set_ne (r := r) (i := 25) (d := .int y) (by decide)).trans h22
  have a23 := (set_ne (r := r) (i := 25) (d := .int y) (by decide)).trans h23
  have a24 := (set_ne (r := r) (i := 25) (d := .int y) (by decide)).trans h24
  have a25 : (r.set 25 (.int y)) 25 = some (false, .int y) := set_eq
  generalize r.set 25 (.int y) = r0 at *
  refine bC fun z_ => ?_
  (obtain ⟨bs, hbs, hb1, hb0, hbc⟩ := row_signs (f := f) (m := m) (q := q) hL y) <;> refine z_ ?_ <;> clear z_
  have hgap := slope_signs (f := f) (m := m) (q := q) hL y
  generalize hch : chainP (wh L f m q) = ch at *
  have g13 : r0 13 = some (false, .list (ch.map (P4.d b))) := by rw [← hch]; exact T0.h13
  -- the values
  generalize hva : ch.map (·.at y) = va at *
  generalize hot : (slopes L f m q).map (·.at y) = ot at *
  have lva : va.length ≤ 4 := by rw [← hva, List.length_map]; exact ck.len
  have lot : ot.length ≤ 4 := by rw [← hot]; simp [slopes]
  have e0 : exec C3 r0 (.assign [26, 27] (.tup [(.call 123 [(.var 13), (.var 25)]), (.call 123 [(.var 14), (.var 25)])])) = some (.next, (r0.set 26 (.list (va.map .int))).set 27 (.list (ot.map .int))) := by
    have c1 := e_call (C := C3) (r := r0) (f := 123) (e_cons (e_var g13) (e_cons (e_var a25) e_nil)) (F_at (n := 1600) (fun p hp => (ck.ok p hp).c) by' (by omega) (by have := ck.len; omega))
    have c2 := e_call (C := C3) (r := r0) (f := 123) (e_cons (e_var T0.h14) (e_cons (e_var a25) e_nil)) (F_at (n := 95) (fun p hp => (slopes_ok bL bf bm bq p hp).c) by' (by omega) (by simp [slopes]))
    have d1 : (ch.map fun p => D.int (p.at y)) = va.map .int := by rw [← hva, List.map_map]; rfl
    have d2 : ((slopes L f m q).map fun p => D.int (p.at y)) = ot.map .int := by rw [← hot, List.map_map]; rfl
    rw [d1] at c1; rw [d2] at c2
    exact ex_put (e_tup (e_cons c1 (e_cons c2 e_nil)) (by simp [big])) rfl
  have T1 := (T0.set (i := 26) (d := .list (va.map .int)) (by decide)).set (i := 27) (d := .list (ot.map .int)) (by decide)
  have b21 := (set_ne (r := r0.set 26 (.list (va.map .int))) (i := 27) (d := .list (ot.map .int)) (by decide)).trans ((set_ne (by decide)).trans a21)
  have b22 := (set_ne (r := r0.set 26 (.list (va.map .int))) (i := 27) (d := .list (ot.map .int)) (by decide)).trans ((set_ne (by decide)).trans a22)
  have b23 := (set_ne (r := r0.set 26 (.list (va.map .int))) (i := 27) (d := .list (ot.map .int)) (by decide)).trans ((set_ne (by decide)).trans a23)
  have b24 := (set_ne (r := r0.set 26 (.list (va.map .int))) (i := 27) (d := .list (ot.map .int)) (by decide)).trans ((set_ne (by decide)).trans a24)
  have b25 := (set_ne (r := r0.set 26 (.list (va.map .int))) (i := 27) (d := .list (ot.map .int)) (by decide)).trans ((set_ne (by decide)).trans a25)
  have b26 : ((r0.set 26 (.list (va.map .int))).set 27 (.list (ot.map .int))) 26 = some (false, .list (va.map .int)) := (set_ne (by decide)).trans set_eq
  have b27 : ((r0.set 26 (.list (va.map .int))).set 27 (.list (ot.map .int))) 27 = some (false, .list (ot.map .int)) := set_eq
  generalize (r0.set 26 (.list (va.map .int))).set 27 (.list (ot.map .int)) = r1 at *
  -- here, left, right
  have e1 : ev C3 r1 (.ite (.plain (.cmp .le (.var 2) (.var 25))) (.lit (.int 1)) (.lit (.int 0))) = some (.int (heN (y - m) (f - m))) := by
    have := ite_int (C := C3) (p_cmp (op := .le) (e_var T1.w.h2) (e_var b25) (c_le _ _)) (e_int (i := 1)) (e_int (i := 0))
    rw [this]; unfold heN
    by_cases z : f ≤ y
    · simp [z]
    · simp [z]
  have by1 : bd 25 (m - y) := bm.add by'.neg
  have sqe : ∀ r : Rho, Wd L f m q v w r → r 25 = some (false, .int y) → ev C3 r (.bin .pow (.bin .sub (.var 3) (.var 25)) (.lit (.int 2))) = some (.int ((m - y) * (m - y))) := fun r Tr k => e_sq (e_sbt (e_var Tr.h3) (e_var k)) by1
  have sqm : (m - y) * (m - y) = (y - m) * (y - m) := by grind
  have e2 : ∀ r : Rho, Wd L f m q v w r → r 25 = some (false, .int y) → ev C3 r (.ite (.band (.plain (.cmp .ge (.var 4) (.lit (.int 0)))) (.bor (.plain (.cmp .le (.var 3) (.var 25))) (.plain (.cmp .le (.bin .pow (.bin .sub (.var 3) (.var 25)) (.lit (.int 2))) (.var 4))))) (.lit (.int 1)) (.lit (.int 0))) = some (.int (lefN (y - m) q)) := fun r Tr k => by
    have := ite_int (C := C3) (b_and (p_cmp (op := .ge) (e_var Tr.h4) (e_int (i := 0)) (c_ge _ _)) (b_or (p_cmp (op := .le) (e_var Tr.h3) (e_var k) (c_le _ _)) (p_cmp (op := .le) (sqe r Tr k) (e_var Tr.h4) (c_le _ _)))) (e_int (i := 1)) (e_int (i := 0))
    rw [this]; unfold lefN
    simp only [Bool.and_eq_true, Bool.or_eq_true, decide_eq_true_eq, sqm]
    by_cases z : q ≥ 0 ∧ (m ≤ y ∨ (y - m) * (y - m) ≤ q)
    · rw [if_pos z, if_pos ⟨z.1, by omega⟩]; rfl
    · rw [if_neg z, if_neg (by intro k; exact z ⟨k.1, by omega⟩)]; rfl
  have e3 : ∀ r : Rho, Wd L f m q v w r → r 25 = some (false, .int y) → ev C3 r (.ite (.band (.plain (.cmp .ge (.var 4) (.lit (.int 0)))) (.band (.plain (.cmp .le (.var 3) (.var 25))) (.plain (.cmp .ge (.bin .pow (.bin .sub (.var 3) (.var 25)) (.lit (.int 2))) (.var 4))))) (.lit (.int 1)) (.lit (.int 0))) = some (.int (rigN (y - m) q)) := fun r Tr k => by
    have := ite_int (C := C3) (b_and (p_cmp (op := .ge) (e_var Tr.h4) (e_int (i := 0)) (c_ge _ _)) (b_and (p_cmp (op := .le) (e_var Tr.h3) (e_var k) (c_le _ _)) (p_cmp (op := .ge) (sqe r Tr k) (e_var Tr.h4) (c_ge _ _)))) (e_int (i := 1)) (e_int (i := 0))
    rw [this]; unfold rigN
    simp only [Bool.and_eq_true, decide_eq_true_eq, sqm]
    by_cases z : q ≥ 0 ∧ m ≤ y ∧ (y - m) * (y - m) ≥ q
    · rw [if_pos z, if_pos ⟨z.1, by omega, z.2.2⟩]; rfl
    · rw [if_neg z, if_neg (by intro k; exact z ⟨k.1, by omega, k.2.2⟩)]; rfl
  generalize hhe : heN (y - m) (f - m) = he at *
  generalize hle : lefN (y - m) q = le at *
  generalize hri : rigN (y - m) q = ri at *
  generalize hR : ((r1.set 28 (.int he)).set 29 (.int le)).set 30 (.int ri) = r2
  have fr : ∀ i, i ≠ 28 → i ≠ 29 → i ≠ 30 → r2 i = r1 i := fun i z1 z2 z3 => by rw [← hR]; exact (set_ne z3).trans ((set_ne z2).trans (set_ne z1))
  have T2 : SB L f m q v w b false r2 := T1.of fun i _ _ => fr i (by omega) (by omega) (by omega)
  have k28 : r2 28 = some (false, .int he) := by rw [← hR]; exact (set_ne (by decide)).trans ((set_ne (by decide)).trans set_eq)
  have k29 : r2 29 = some (false, .int le) := by rw [← hR]; exact (set_ne (by decide)).trans set_eq
  have k30 : r2 30 = some (false, .int ri) := by rw [← hR]; exact set_eq
  have k21 := (fr 21 (by decide) (by decide) (by decide)).trans b21
  have k22 := (fr 22 (by decide) (by decide) (by decide)).trans b22
  have k23 := (fr 23 (by decide) (by decide) (by decide)).trans b23
  have k24 := (fr 24 (by decide) (by decide) (by decide)).trans b24
  have k25 := (fr 25 (by decide) (by decide) (by decide)).trans b25
  have k26 := (fr 26 (by decide) (by decide) (by decide)).trans b26
  have k27 := (fr 27 (by decide) (by decide) (by decide)).trans b27
  have step1 : ∀ ss, execs C3 r0 (.assign [26, 27] (.tup [(.call 123 [(.var 13), (.var 25)]), (.call 123 [(.var 14), (.var 25)])]) :: .assign [28] (.ite (.plain (.cmp .le (.var 2) (.var 25))) (.lit (.int 1)) (.lit (.int 0))) :: .assign [29] (.ite (.band (.plain (.cmp .ge (.var 4) (.lit (.int 0)))) (.bor (.plain (.cmp .le (.var 3) (.var 25))) (.plain (.cmp .le (.bin .pow (.bin .sub (.var 3) (.var 25)) (.lit (.int 2))) (.var 4))))) (.lit (.int 1)) (.lit (.int 0))) :: .assign [30] (.ite (.band (.plain (.cmp .ge (.var 4) (.lit (.int 0)))) (.band (.plain (.cmp .le (.var 3) (.var 25))) (.plain (.cmp .ge (.bin .pow (.bin .sub (.var 3) (.var 25)) (.lit (.int 2))) (.var 4))))) (.lit (.int 1)) (.lit (.int 0))) :: ss) = execs C3 r2 ss := fun ss => by
    rw [execs_next e0, execs_next (ex_assign e1), execs_next (ex_assign (e2 _ (T1.w.set (by decide)) ((set_ne (by decide)).trans b25))), execs_next (ex_assign (e3 _ ((T1.w.set (by decide)).set (by decide)) ((set_ne (by decide)).trans ((set_ne (by decide)).trans b25)))), hR]
  clear hR fr e0 e1 e2 e3 b21 b22 b23 b24 b25 b26 b27 a21 a22 a23 a24 g13
  -- the signs and what they ought to tell
  generalize hap : ((if (f - m) * (f - m) = q then 0 else (he : Int)) + le + (if 0 < q then (ri : Int) else 0)) = ap
  have e4 : exec C3 r2 (.assign [31, 32] (.tup [(.call 128 [(.var 26)]), (.bin .add (.bin .add (.ite (.plain (.var 22)) (.lit (.int 0)) (.var 28)) (.var 29)) (.ite (.plain (.cmp .gt (.var 4) (.lit (.int 0)))) (.var 30) (.lit (.int 0))))])) = some (.next, (r2.set 31 (.str (sstr bs))).set 32 (.int ap)) := by
    have c1 := e_call (C := C3) (r := r2) (f := 128) (e_cons (e_var k26) e_nil) (F_signs lva)
    rw [hbs] at c1
    have c2 := e_add (e_add (ite_int (C := C3) (p_of (e_var k22)) (e_int (i := 0)) (e_var k28)) (e_var k29)) (ite_int (C := C3) (p_cmp (op := .gt) (e_var T2.w.h4) (e_int (i := 0)) (c_gt _ _)) (e_var k30) (e_int (i := 0)))
    simp only [decide_eq_true_eq, gt_iff_lt] at c2
    rw [hap] at c2
    exact ex_put (e_tup (e_cons c1 (e_cons c2 e_nil)) (by simp [big])) rfl
  generalize hR : (r2.set 31 (.str (sstr bs))).set 32 (.int ap) = r3 at *
  have fr : ∀ i, i ≠ 31 → i ≠ 32 → r3 i = r2 i := fun i z1 z2 => by rw [← hR]; exact (set_ne z2).trans (set_ne z1)
  have T3 : SB L f m q v w b false r3 := T2.of fun i _ _ => fr i (by omega) (by omega)
  have m31 : r3 31 = some (false, .str (sstr bs)) := by rw [← hR]; exact (set_ne (by decide)).trans set_eq
  have m32 : r3 32 = some (false, .int ap) := by rw [← hR]; exact set_eq
  have m21 := (fr 21 (by decide) (by decide)).trans k21
  have m22 := (fr 22 (by decide) (by decide)).trans k22
  have m23 := (fr 23 (by decide) (by decide)).trans k23
  have m24 := (fr 24 (by decide) (by decide)).trans k24
  have m25 := (fr 25 (by decide) (by decide)).trans k25
  have m26 := (fr 26 (by decide) (by decide)).trans k26
  have m27 := (fr 27 (by decide) (by decide)).trans k27
  have m28 := (fr 28 (by decide) (by decide)).trans k28
  have m29 := (fr 29 (by decide) (by decide)).trans k29
  have m30 := (fr 30 (by decide) (by decide)).trans k30
  clear hR fr k21 k22 k23 k24 k25 k26 k27 k28 k29 k30
  have lbs : bs.length ≤ 4 := by rw [← hbs]; exact Nat.le_trans sgn_len lva
  have e5 : exec C3 r3 (.ifs (.bor (.plain (.cmp .ne (.cmp .eq (.var 31) (.lit (.str (Str.ofString "")))) (.bor (.band (.var 22) (.cmp .eq (.var 25) (.var 2))) (.band (.cmp .eq (.var 4) (.lit (.int 0))) (.cmp .eq (.var 25) (.var 3)))))) (.bor (.band (.plain (.cmp .ne (.var 31) (.lit (.str (Str.ofString ""))))) (.plain (.cmp .ne (.bin .sub (.var 21) (.call 133 [(.var 31)])) (.var 32)))) (.not (.plain (.call 138 [(.var 31)]))))) [.ret (.lit (.bool false))] []) = some (.next, r3) := by
    have s0 : ev C3 r3 (.lit (.str (Str.ofString ""))) = some (.str (Str.ofString "")) := rfl
    have x1 : ev C3 r3 (.cmp .eq (.var 31) (.lit (.str (Str.ofString "")))) = some (.bool (decide (sstr bs = Str.ofString ""))) := e_cmp (e_var m31) s0 rfl
    have x2 := x_or (x_and (e_var m22) (e_cmp (C := C3) (op := .eq) (e_var m25) (e_var T3.w.h2) (c_eq _ _))) (x_and (e_cmp (C := C3) (op := .eq) (e_var T3.w.h4) (e_int (i := 0)) (c_eq _ _)) (e_cmp (op := .eq) (e_var m25) (e_var T3.w.h3) (c_eq _ _)))
    have q1 := p_cmp (C := C3) (op := .ne) (z := false) x1 x2 (by
      have : decide (sstr bs = Str.ofString "") = (decide ((f - m) * (f - m) = q) && decide (y = f) || decide (q = 0) && decide (y = m)) := by
        rw [Bool.eq_iff_iff]
        simp only [decide_eq_true_eq, Bool.or_eq_true, Bool.and_eq_true]
        rw [sstr_nil, hb0]
      rw [this]
      exact congrArg (fun z => some (!z)) (beq_self_eq_true _))
    have q2 : evB C3 r3 (.plain (.cmp .ne (.var 31) (.lit (.str (Str.ofString ""))))) = some (!decide (sstr bs = Str.ofString "")) := p_cmp (e_var m31) s0 rfl
    have x3 := e_sbt (e_var m21) (e_call (C := C3) (r := r3) (f := 133) (e_cons (e_var m31) e_nil) (F_changes lbs))
    have q3 := p_nei x3 (e_var m32)
    have q4 := b_not (p_of (e_call (C := C3) (r := r3) (f := 138) (e_cons (e_var m31) e_nil) (F_fits lbs hb1)))
    have qq := b_or q1 (b_or (b_and q2 q3) q4)
    have : (false || (!decide (sstr bs = Str.ofString "") && !decide ((lowN (f - m) q : Int) - (chg bs : Int) = ap) || !true)) = false := by
      by_cases z : bs = []
      · simp [sstr_nil.mpr z]
      · have h := hbc z
        have : (lowN (f - m) q : Int) - (chg bs : Int) = ap := by
          rw [h, ← hap]
          by_cases z1 : (f - m) * (f - m) = q <;> by_cases z2 : 0 < q <;> simp only [z1, z2, if_true, if_false] <;> omega
        simp [this]
    rw [this] at qq
    exact ex_false qq
  have e6 : exec C3 r3 (.append 23 (.bin .sub (.bin .sub (.bin .sub (.bin .sub (.lit (.int 3)) (.call 133 [(.call 128 [(.var 27)])])) (.var 28)) (.var 29)) (.var 30))) = some (.next, r3.own 23 (.list ((done ++ [y]).map fun y => .int (gapN (y - m) (f - m) q)))) := by
    have x1 := e_sbt (e_sbt (e_sbt (e_sbt (e_int (i := 3)) (e_chg (e_var m27) lot)) (e_var m28)) (e_var m29)) (e_var m30)
    rw [hgap] at x1
    rw [List.map_append]
    exact ex_append x1 m23 (by simp; omega)
  have T4 := T3.own (i := 23) (d := .list ((done ++ [y]).map fun y => .int (gapN (y - m) (f - m) q))) (by decide)
  have n21 := (own_ne (r := r3) (i := 23) (d := .list ((done ++ [y]).map fun y => .int (gapN (y - m) (f - m) q))) (by decide)).trans m21
  have n22 := (own_ne (r := r3) (i := 23) (d := .list ((done ++ [y]).map fun y => .int (gapN (y - m) (f - m) q))) (by decide)).trans m22
  have n23 : (r3.own 23 (.list ((done ++ [y]).map fun y => .int (gapN (y - m) (f - m) q)))) 23 = some (true, .list ((done ++ [y]).map fun y => .int (gapN (y - m) (f - m) q))) := own_eq
  have n24 := (own_ne (r := r3) (i := 23) (d := .list ((done ++ [y]).map fun y => .int (gapN (y - m) (f - m) q))) (by decide)).trans m24
  have n26 := (own_ne (r := r3) (i := 23) (d := .list ((done ++ [y]).map fun y => .int (gapN (y - m) (f - m) q))) (by decide)).trans m26
  have n27 := (own_ne (r := r3) (i := 23) (d := .list ((done ++ [y]).map fun y => .int (gapN (y - m) (f - m) q))) (by decide)).trans m27
  generalize r3.own 23 (.list ((done ++ [y]).map fun y => .int (gapN (y - m) (f - m) q))) = r4 at *
  have e7 : exec C3 r4 (.assign [24] (.bin .add (.bin .add (.var 24) (.var 26)) (.var 27))) = some (.next, r4.set 24 (.list ((xs ++ va ++ ot).map .int))) :=
    ex_assign (e_addL (e_addL (e_var n24) (e_var n26) (by omega)) (e_var n27) (by rw [List.length_append]; omega))
  refine ⟨r4.set 24 (.list ((xs ++ va ++ ot).map .int)), ?_, ⟨T4.set (by decide), (set_ne (by decide)).trans n21, (set_ne (by decide)).trans n22, (set_ne (by decide)).trans n23, xs ++ va ++ ot, ?_, set_eq⟩⟩
  · rw [step1, execs_next e4, execs_next e5, execs_next e6]
    exact execs_one e7
  · simp only [List.length_append, List.length_cons, List.length_nil]; omega
end Mine
end

/- part QO -/
section
open PySem PySem.W
set_option maxRecDepth 100000
namespace Mine
theorem phase_e {L f m q v w : Int} {b : Bool} {r : Rho} (T : SE L f m q v w b [] r) (ck : ChOk (chainP (wh L f m q))) (hL : L ≠ 0) (bL : bd 12 L) (bf : bd 24 f) (bm : bd 24 m) (bq : bd 28 q) (bv : bd 24 v) :
    ∃ r', SE L f m q v w b [0, f, m, v] r' ∧ exec C3 r l15 = some (.next, r') := by
  refine bC fun z_ => ?_
  (obtain ⟨r1, e1, T1⟩ := sp_turn (y := 0) T ck hL bL bf bm bq (Nat.pow_pos (by decide)) (by simp)) <;> refine z_ ?_ <;> clear z_
  refine bC fun z_ => ?_
  (obtain ⟨r2, e2, T2⟩ := sp_turn (y := f) T1 ck hL bL bf bm bq bf (by simp)) <;> refine z_ ?_ <;> clear z_
  refine bC fun z_ => ?_
  (obtain ⟨r3, e3, T3⟩ := sp_turn (y := m) T2 ck hL bL bf bm bq bm (by simp)) <;> refine z_ ?_ <;> clear z_
  refine bC fun z_ => ?_
  (obtain ⟨r4, e4, T4⟩ := sp_turn (y := v) T3 ck hL bL bf bm bq bv (by simp)) <;> refine z_ ?_ <;> clear z_
  refine ⟨r4, T4, ?_⟩
  rw [l15_eq]
  exact ex_for (i_list (e_var T.b.w.h5)) (fo_cons e1 (fo_cons e2 (fo_cons e3 (fo_cons e4 rfl))))
theorem l_none {C : Cx} {r : Rho} {x : X} {xs : List X} (h : evL C r xs = none) : evL C r (x :: xs) = none := by
  show (ev C r x >>= fun d => evL C r xs >>= fun l => some (d :: l)) = none
  rw [h]; cases ev C r x <;> rfl
theorem l_none1 {C : Cx} {r : Rho} {x : X} {xs : List X} (h : ev C r x = none) : evL C r (x :: xs) = none := bn h
/- rows of spot and gap -/
noncomputable def rowD (f m q y : Int) : D := .tup [.int y, .int (gapN (y - m) (f - m) q)]
structure SF (L f m q v w : Int) (b : Bool) (way turn : Int) (r : Rho) : Prop where
  b : SB L f m q v w b false r
  h23 : r 23 = some (false, .list (([0, f, m, v] : List Int).map fun y => .int (gapN (y - m) (f - m) q)))
  h24 : ∃ xs : List Int, xs.length ≤ 100 ∧ r 24 = some (false, .list (xs.map .int))
  h33 : r 33 = some (false, .int way)
  h34 : r 34 = some (false, .int turn)
  h36 : r 36 = some (false, .inst 45 (.list [.tup [.int 0, .int way], .tup [.int 1, .int turn]]))
  h37 : r 37 = some (false, .inst 45 (.list [.tup [.int 1, .int way], .tup [.int 0, .int turn]]))
theorem SF.of {L f m q v w : Int} {b : Bool} {way turn : Int} {r r' : Rho} (T : SF L f m q v w b way turn r) (h : ∀ i, i ≤ 37 → 1 ≤ i → r' i = r i) : SF L f m q v w b way turn r' :=
  ⟨T.b.of fun i a b => h i (by omega) b, (h 23 (by decide) (by decide)).trans T.h23, let ⟨xs, a, e⟩ := T.h24; ⟨xs, a, (h 24 (by decide) (by decide)).trans e⟩, (h 33 (by decide) (by decide)).trans T.h33, (h 34 (by decide) (by decide)).trans T.h34, (h 36 (by decide) (by decide)).trans T.h36, (h 37 (by decide) (by decide)).trans T.h37⟩
theorem SF.set {L f m q v w : Int} {b : Bool} {way turn : Int} {r : Rho} {i : Nat} {d : D} (T : SF L f m q v w b way turn r) (h : 38 ≤ i) : SF L f m q v w b way turn (r.set i d) := T.of fun j _ _ => set_ne (by omega)
theorem e_way {r : Rho} {w n : Int} (h : r 6 = some (false, .int w)) (hn : 0 < n ∧ n < 1073741824) : ev C3 r (.bin .sub (.lit (.int 1)) (.bin .mul (.bin .mod (.bin .fdiv (.var 6) (.lit (.int n))) (.lit (.int 2))) (.lit (.int 2)))) = some (.int (1 - (w.fdiv n).fmod 2 * 2)) := by
  have e1 : ev C3 r (.bin .fdiv (.var 6) (.lit (.int n))) = some (.int (w.fdiv n)) := e_bin (e_var h) e_int (if_pos hn)
  have e2 : ev C3 r (.bin .mod (.bin .fdiv (.var 6) (.lit (.int n))) (.lit (.int 2))) = some (.int ((w.fdiv n).fmod 2)) := e_bin e1 e_int rfl
  have := fm (n := 2) (w.fdiv n)
  exact e_sbt e_int (e_mul e2 e_int (n := 2) (k := 2) (by unfold bd; omega) (bd.lit (n := 2)))
theorem phase_f0 {L f m q v w : Int} {b : Bool} {r : Rho} (T : SE L f m q v w b [0, f, m, v] r) :
    ∃ r' way turn, bd 2 way ∧ bd 2 turn ∧ SF L f m q v w b way turn r' ∧ r' 35 = some (false, .list (([0, f, m, v] : List Int).map (rowD f m q))) ∧ ∀ ss, execs C3 r (l16 :: l17 :: ss) = execs C3 r' ss := by
  refine bC fun z_ => ?_
  (obtain ⟨T, h21, h22, h23, xs, hx, h24⟩ := T) <;> refine z_ ?_ <;> clear z_
  have way2 : ∀ x : Int, bd 2 (1 - x.fmod 2 * 2) := fun x => by have := fm (n := 2) x; unfold bd; omega
  have T1 := T.freeze
  have n23 : ev C3 r (.var 23) = none := rget_own h23
  have nz : ev C3 r (.listOf (.zip (.var 5) (.var 23))) = none := bn (bs (e_var T.w.h5) (bn n23))
  have nt : ev C3 r (.tup [(.bin .sub (.lit (.int 1)) (.bin .mul (.bin .mod (.bin .fdiv (.var 6) (.lit (.int 2))) (.lit (.int 2))) (.lit (.int 2)))), (.bin .sub (.lit (.int 1)) (.bin .mul (.bin .mod (.bin .fdiv (.var 6) (.lit (.int 4))) (.lit (.int 2))) (.lit (.int 2)))), (.listOf (.zip (.var 5) (.var 23)))]) = none := bn (l_none (l_none (l_none1 nz)))
  have z1 : ev C3 r.freeze (.listOf (.zip (.var 5) (.var 23))) = some (.list (([0, f, m, v] : List Int).map (rowD f m q))) := bs (bs (e_var T1.w.h5) (bs (e_var (frz h23)) rfl)) rfl
  have et := e_tup (C := C3) (r := r.freeze) (e_cons (e_way (n := 2) T1.w.h6 (by decide)) (e_cons (e_way (n := 4) T1.w.h6 (by decide)) (e_cons z1 e_nil))) (hb100 (show 3 ≤ 1000 by decide))
  generalize hway : 1 - (w.fdiv 2).fmod 2 * 2 = way at *
  generalize htur : 1 - (w.fdiv 4).fmod 2 * 2 = turn at *
  have bw : bd 2 way := by rw [← hway]; exact way2 _
  have bt : bd 2 turn := by rw [← htur]; exact way2 _
  generalize hrows : D.list (([0, f, m, v] : List Int).map (rowD f m q)) = rows at *
  have e16 : exec C3 r l16 = some (.next, ((r.freeze.set 33 (.int way)).set 34 (.int turn)).set 35 rows) := bs (evF_frz nt et) rfl
  generalize hR : ((r.freeze.set 33 (.int way)).set 34 (.int turn)).set 35 rows = r1 at *
  have fr : ∀ i, i ≠ 33 → i ≠ 34 → i ≠ 35 → r1 i = r.freeze i := fun i z1 z2 z3 => by rw [← hR]; exact (set_ne z3).trans ((set_ne z2).trans (set_ne z1))
  have k33 : r1 33 = some (false, .int way) := by rw [← hR]; exact (set_ne (by decide)).trans ((set_ne (by decide)).trans set_eq)
  have k34 : r1 34 = some (false, .int turn) := by rw [← hR]; exact (set_ne (by decide)).trans set_eq
  have k35 : r1 35 = some (false, rows) := by rw [← hR]; exact set_eq
  have T2 : SB L f m q v w b false r1 := T1.of fun i _ _ => fr i (by omega) (by omega) (by omega)
  have k23 := (fr 23 (by decide) (by decide) (by decide)).trans (frz h23)
  have k24 := (fr 24 (by decide) (by decide) (by decide)).trans (frz h24)
  have e17 : exec C3 r1 l17 = some (.next, (r1.set 36 (.inst 45 (.list [.tup [.int 0, .int way], .tup [.int 1, .int turn]]))).set 37 (.inst 45 (.list [.tup [.int 1, .int way], .tup [.int 0, .int turn]]))) := by
    have p0 : ∀ i : Int, ev C3 r1 (.tup [(.lit (.int i)), (.var 33)]) = some (.tup [.int i, .int way]) := fun i => e_tup (e_cons e_int (e_cons (e_var k33) e_nil)) (hb100 (show 2 ≤ 1000 by decide))
    have p1 : ∀ i : Int, ev C3 r1 (.tup [(.lit (.int i)), (.var 34)]) = some (.tup [.int i, .int turn]) := fun i => e_tup (e_cons e_int (e_cons (e_var k34) e_nil)) (hb100 (show 2 ≤ 1000 by decide))
    have c1 := e_call (C := C3) (r := r1) (f := 45) (d := .inst 45 (.list [.tup [.int 0, .int way], .tup [.int 1, .int turn]])) (e_cons (e_list (e_cons (p0 0) (e_cons (p1 1) e_nil)) (show 2 ≤ 100 by decide)) e_nil) rfl
    have c2 := e_call (C := C3) (r := r1) (f := 45) (d := .inst 45 (.list [.tup [.int 1, .int way], .tup [.int 0, .int turn]])) (e_cons (e_list (e_cons (p0 1) (e_cons (p1 0) e_nil)) (show 2 ≤ 100 by decide)) e_nil) rfl
    exact ex_put (e_tup (e_cons c1 (e_cons c2 e_nil)) (hb100 (show 2 ≤ 1000 by decide))) rfl
  have ne2 : ∀ i, i ≠ 36 → i ≠ 37 → ((r1.set 36 (.inst 45 (.list [.tup [.int 0, .int way], .tup [.int 1, .int turn]]))).set 37 (.inst 45 (.list [.tup [.int 1, .int way], .tup [.int 0, .int turn]]))) i = r1 i := fun i z1 z2 => (set_ne z2).trans (set_ne z1)
  refine ⟨_, way, turn, bw, bt, ⟨(T2.set (by decide)).set (by decide), (ne2 _ (by decide) (by decide)).trans k23, ⟨xs, by simp at hx; omega, (ne2 _ (by decide) (by decide)).trans k24⟩, (ne2 _ (by decide) (by decide)).trans k33, (ne2 _ (by decide) (by decide)).trans k34, (set_ne (by decide)).trans set_eq, set_eq⟩, (ne2 _ (by decide) (by decide)).trans k35, fun ss => ?_⟩
  rw [execs_next e16, execs_next e17]
/-! the pairs of rows -/
theorem flatMM_map {F : D → Option (List D)} {g : D → List D} : ∀ {l : List D}, (∀ x ∈ l, F x = some (g x)) → flatMM F l = some (l.flatMap g)
  | [], _ => rfl
  | a :: _, h => bs (h a (.head _)) (bs (flatMM_map fun x hx => h x (.tail _ hx)) rfl)
theorem filtM_id {f : D → Option (Option D)} {g : D → D} : ∀ {l : List D}, (∀ x ∈ l, f x = some (some (g x))) → filtM f l = some (l.map g)
  | [], _ => rfl
  | a :: _, h => fm_cons (h a (.head _)) (filtM_id fun x hx => h x (.tail _ hx))
theorem pairs_len {l : List D} : ∀ (k : List D), (k.flatMap fun a => l.map fun c => D.tup [a, c]).length = k.length * l.length
  | [] => (Nat.zero_mul _).symm
  | a :: k => by rw [List.flatMap_cons, List.length_append, pairs_len k, List.length_map, List.length_cons, Nat.succ_mul, Nat.add_comm]
theorem e_pairs {r : Rho} {l : List D} (h : r 35 = some (false, .list l)) (hl : l.length ≤ 10) : ev C3 r (.comp2 38 39 [35] (.plain (.var 35)) (.plain (.var 35)) (.tup [(.var 38), (.var 39)])) = some (.list (l.flatMap fun a => l.map fun c => .tup [a, c])) := by
  have hb : (r.block [35]) 35 = some (false, .list l) := blk h
  have hl2 : (l.flatMap fun a => l.map fun c => D.tup [a, c]).length ≤ big := by
    rw [pairs_len]
    exact hb100 (Nat.le_trans (Nat.mul_le_mul hl hl) (by decide))
  have tk : ∀ a c : D, ev C3 (((r.block [35]).set 38 a).set 39 c) (.tup [(.var 38), (.var 39)]) = some (.tup [a, c]) := fun a c => e_tup (e_cons (e_var (set_k set_eq)) (e_cons (e_var set_eq) e_nil)) (hb100 (show 2 ≤ 1000 by decide))
  have fk : ∀ a : D, filtM (fun d' => do let y ← ev C3 (((r.block [35]).set 38 a).set 39 d') (.tup [(.var 38), (.var 39)]); some (some y)) l = some (l.map fun c => .tup [a, c]) := fun a => filtM_id fun c _ => bs (tk a c) rfl
  exact bs (i_list (e_var h)) (bs (a := D.none) (if_pos (hb100 (by omega))) (bs (flatMM_map (g := fun a => l.map fun c => .tup [a, c]) fun x _ => bs (i_list (e_var (set_k hb))) (fk x)) (if_pos hl2)))
end Mine
end

/- part QP -/
section
open PySem PySem.W
set_option maxRecDepth 100000
namespace Mine
noncomputable def ahead (y z : Int) : Int := (if decide (y > z) = true then 1 else 0) - (if decide (y < z) = true then 1 else 0)
theorem ahead_b (y z : Int) : bd 2 (ahead y z) := by
  unfold ahead bd; by_cases a : y > z <;> by_cases b : y < z <;> simp [a, b]
theorem cmp_spot {y z g h way turn : Int} (e : y = z → g = h) : cmpV y g z h way turn = way * ahead y z := by
  unfold cmpV ahead
  rcases Int.lt_trichotomy y z with k | k | k
  · have : ¬ y > z := by omega
    simp [k, this]
  · have := e k
    subst k; subst this; simp
  · have : ¬ y < z := by omega
    simp [k, this]
theorem cmp_gap {y z g h way turn : Int} (e1 : y ≤ z → g ≤ h) (e2 : z ≤ y → h ≤ g) : cmpV g y h z way turn = (if decide (g = h) = true then turn else way) * ahead y z := by
  unfold cmpV ahead
  rcases Int.lt_trichotomy g h with k | k | k
  · have k1 : y < z := by omega
    have k2 : ¬ y > z := by omega
    have k3 : ¬ g = h := by omega
    simp [k, k1, k2, k3]
  · subst k
    rcases Int.lt_trichotomy y z with j | j | j
    · have : ¬ y > z := by omega
      simp [j, this]
    · subst j; simp
    · have : ¬ y < z := by omega
      simp [j, this]
  · have k1 : y > z := by omega
    have k2 : ¬ y < z := by omega
    have k3 : ¬ g = h := by omega
    have k4 : ¬ g < h := by omega
    simp [k, k1, k2, k3, k4]
noncomputable abbrev prBody : List S := [.assign [40, 41] (.tup [(.list [(.call 42 ((.var 36) :: [(.var 38), (.var 39)])), (.call 42 ((.var 37) :: [(.var 38), (.var 39)]))]), (.bin .sub (.cmp .gt (.sub (.var 38) (.lit (.int 0))) (.sub (.var 39) (.lit (.int 0)))) (.cmp .lt (.sub (.var 38) (.lit (.int 0))) (.sub (.var 39) (.lit (.int 0)))))]), .ifs (.bor (.plain (.cmp .ne (.var 40) (.list [(.bin .mul (.var 33) (.var 41)), (.bin .mul (.ite (.plain (.cmp .eq (.sub (.var 38) (.lit (.int 1))) (.sub (.var 39) (.lit (.int 1))))) (.var 34) (.var 33)) (.var 41))]))) (.plain (.cmp .ne (.comp [38] [] (.plain (.var 40)) (some (.bor (.plain (.isinst (.var 38) .bool)) (.not (.plain (.isinst (.var 38) .int))))) (.var 38)) (.list [])))) [.ret (.lit (.bool false))] []]
theorem l18_eq : l18 = .fors [38, 39] (.plain (.comp2 38 39 [35] (.plain (.var 35)) (.plain (.var 35)) (.tup [(.var 38), (.var 39)]))) prBody := rfl
theorem pr_turn {L f m q v w y z : Int} {b : Bool} {way turn : Int} {r : Rho} (T : SF L f m q v w b way turn r) (bw : bd 2 way) (bt : bd 2 turn) :
    ∃ r', ((r.put [38, 39] (.tup [rowD f m q y, rowD f m q z])).bind fun r1 => execs C3 r1 prBody) = some (.next, r') ∧ SF L f m q v w b way turn r' := by
  show ∃ r', execs C3 ((r.set 38 (rowD f m q y)).set 39 (rowD f m q z)) prBody = some (.next, r') ∧ _
  have hg1 : y ≤ z → gapN (y - m) (f - m) q ≤ gapN (z - m) (f - m) q := fun h => gap_mono (by omega)
  have hg2 : z ≤ y → gapN (z - m) (f - m) q ≤ gapN (y - m) (f - m) q := fun h => gap_mono (by omega)
  unfold rowD
  generalize gapN (y - m) (f - m) q = g at *
  generalize gapN (z - m) (f - m) q = h at *
  have T1 := (T.set (i := 38) (d := .tup [.int y, .int g]) (by decide)).set (i := 39) (d := .tup [.int z, .int h]) (by decide)
  have k38 : ((r.set 38 (.tup [.int y, .int g])).set 39 (.tup [.int z, .int h])) 38 = some (false, .tup [.int y, .int g]) := (set_ne (by decide)).trans set_eq
  have k39 : ((r.set 38 (.tup [.int y, .int g])).set 39 (.tup [.int z, .int h])) 39 = some (false, .tup [.int z, .int h]) := set_eq
  generalize (r.set 38 (.tup [.int y, .int g])).set 39 (.tup [.int z, .int h]) = r1 at *
  have e1 : exec C3 r1 (.assign [40, 41] (.tup [(.list [(.call 42 ((.var 36) :: [(.var 38), (.var 39)])), (.call 42 ((.var 37) :: [(.var 38), (.var 39)]))]), (.bin .sub (.cmp .gt (.sub (.var 38) (.lit (.int 0))) (.sub (.var 39) (.lit (.int 0)))) (.cmp .lt (.sub (.var 38) (.lit (.int 0))) (.sub (.var 39) (.lit (.int 0)))))])) = some (.next, (r1.set 40 (.list [.int (way * ahead y z), .int ((if decide (g = h) = true then turn else way) * ahead y z)])).set 41 (.int (ahead y z))) := by
    have c1 := e_call (C := C3) (r := r1) (f := 42) (xs := (.var 36) :: [(.var 38), (.var 39)]) (e_cons (e_var T1.h36) (e_cons (e_var k38) (e_cons (e_var k39) e_nil))) (F_cmp (i := 0) (j := 1) (a := y) (b := z) (g := g) (h := h) (way := way) (turn := turn) rfl rfl rfl rfl)
    have c2 := e_call (C := C3) (r := r1) (f := 42) (xs := (.var 37) :: [(.var 38), (.var 39)]) (e_cons (e_var T1.h37) (e_cons (e_var k38) (e_cons (e_var k39) e_nil))) (F_cmp (i := 1) (j := 0) (a := g) (b := h) (g := y) (h := z) (way := way) (turn := turn) rfl rfl rfl rfl)
    rw [cmp_spot (fun e => by have := hg1 (by omega); have := hg2 (by omega); omega)] at c1
    rw [cmp_gap hg1 hg2] at c2
    have s1 : ev C3 r1 (.sub (.var 38) (.lit (.int 0))) = some (.int y) := e_sub (o_var k38) e_int rfl
    have s2 : ev C3 r1 (.sub (.var 39) (.lit (.int 0))) = some (.int z) := e_sub (o_var k39) e_int rfl
    have c3 : ev C3 r1 (.bin .sub (.cmp .gt (.sub (.var 38) (.lit (.int 0))) (.sub (.var 39) (.lit (.int 0)))) (.cmp .lt (.sub (.var 38) (.lit (.int 0))) (.sub (.var 39) (.lit (.int 0))))) = some (.int (ahead y z)) :=
      e_bin (e_cmp (op := .gt) s1 s2 (c_gt _ _)) (e_cmp (op := .lt) s1 s2 (c_lt _ _)) rfl
    exact ex_put (e_tup (e_cons (e_list (e_cons c1 (e_cons c2 e_nil)) (by simp)) (e_cons c3 e_nil)) (by simp [big])) rfl
  have ha := ahead_b y z
  generalize ahead y z = ah at *
  have hx : bd 2 (if decide (g = h) = true then turn else way) := by split <;> assumption
  generalize hu : (if decide (g = h) = true then turn else way) = u at *
  have T2 := (T1.set (i := 40) (d := .list [.int (way * ah), .int (u * ah)]) (by decide)).set (i := 41) (d := .int ah) (by decide)
  have m38 : ((r1.set 40 (.list [.int (way * ah), .int (u * ah)])).set 41 (.int ah)) 38 = some (false, .tup [.int y, .int g]) := (set_ne (by decide)).trans ((set_ne (by decide)).trans k38)
  have m39 : ((r1.set 40 (.list [.int (way * ah), .int (u * ah)])).set 41 (.int ah)) 39 = some (false, .tup [.int z, .int h]) := (set_ne (by decide)).trans ((set_ne (by decide)).trans k39)
  have m40 : ((r1.set 40 (.list [.int (way * ah), .int (u * ah)])).set 41 (.int ah)) 40 = some (false, .list [.int (way * ah), .int (u * ah)]) := (set_ne (by decide)).trans set_eq
  have m41 : ((r1.set 40 (.list [.int (way * ah), .int (u * ah)])).set 41 (.int ah)) 41 = some (false, .int ah) := set_eq
  rw [execs_next e1]
  generalize (r1.set 40 (.list [.int (way * ah), .int (u * ah)])).set 41 (.int ah) = r2 at *
  have q1 : evB C3 r2 (.plain (.cmp .ne (.var 40) (.list [(.bin .mul (.var 33) (.var 41)), (.bin .mul (.ite (.plain (.cmp .eq (.sub (.var 38) (.lit (.int 1))) (.sub (.var 39) (.lit (.int 1))))) (.var 34) (.var 33)) (.var 41))]))) = some false := by
    have s1 : ev C3 r2 (.sub (.var 38) (.lit (.int 1))) = some (.int g) := e_sub (o_var m38) e_int rfl
    have s2 : ev C3 r2 (.sub (.var 39) (.lit (.int 1))) = some (.int h) := e_sub (o_var m39) e_int rfl
    have c1 := e_mul (C := C3) (e_var T2.h33) (e_var m41) bw ha
    have c2 := ite_int (p_cmp (op := .eq) s1 s2 (c_eq _ _)) (e_var T2.h34) (e_var T2.h33)
    rw [hu] at c2
    have c3 := e_mul c2 (e_var m41) hx ha
    exact p_ne (e_var m40) (e_list (e_cons c1 (e_cons c3 e_nil)) (show 2 ≤ 100 by decide)) (show eqqL (D.eqq 7) [.int (way * ah), .int (u * ah)] [.int (way * ah), .int (u * ah)] = some true from eqqL_cons eqq_int (eqqL_cons eqq_int rfl))
  have q2 : evB C3 r2 (.plain (.cmp .ne (.comp [38] [] (.plain (.var 40)) (some (.bor (.plain (.isinst (.var 38) .bool)) (.not (.plain (.isinst (.var 38) .int))))) (.var 38)) (.list []))) = some false :=
    p_ne (y := .list []) (ev_comp (l := [.int (way * ah), .int (u * ah)]) (q := []) (i_list (e_var m40)) (hb100 (show 2 ≤ 1000 by decide)) rfl (hb100 (show 0 ≤ 1000 by decide))) rfl rfl
  exact ⟨r2, execs_one (ex_false (b_or q1 q2)), T2⟩
theorem phase_f {L f m q v w : Int} {b : Bool} {way turn : Int} {r : Rho} (T : SF L f m q v w b way turn r) (bw : bd 2 way) (bt : bd 2 turn) (h35 : r 35 = some (false, .list (([0, f, m, v] : List Int).map (rowD f m q)))) :
    ∃ r', SF L f m q v w b way turn r' ∧ exec C3 r l18 = some (.next, r') := by
  obtain ⟨r', e', T'⟩ := forM_inv (f := fun d r => do let r' ← r.put [38, 39] d; execs C3 r' prBody) (I := SF L f m q v w b way turn) ((([0, f, m, v] : List Int).map (rowD f m q)).flatMap fun a => (([0, f, m, v] : List Int).map (rowD f m q)).map fun c => .tup [a, c]) r T (fun d hd r hr => by
    rw [List.mem_flatMap] at hd
    refine bC fun z_ => ?_
    (obtain ⟨a, ha, hd⟩ := hd) <;> refine z_ ?_ <;> clear z_
    refine bC fun z_ => ?_
    (obtain ⟨c, hc, rfl⟩ := List.mem_map.mp hd) <;> refine z_ ?_ <;> clear z_
    refine bC fun z_ => ?_
    (obtain ⟨y, _, rfl⟩ := List.mem_map.mp ha) <;> refine z_ ?_ <;> clear z_
    refine bC fun z_ => ?_
    (obtain ⟨z, _, rfl⟩ := List.mem_map.mp hc) <;> refine z_ ?_ <;> clear z_
    exact pr_turn hr bw bt)
  refine ⟨r', T', ?_⟩
  rw [l18_eq]
  exact ex_for (i_list (e_pairs h35 (by simp))) e'
end Mine
end

/- part QR -/
section
open PySem PySem.W
set_option maxRecDepth 100000
namespace Mine
/- Routh's column -/
noncomputable def col2 (L f m q : Int) : Int := (Lc2 L f m * Lc1 L f m q - L * Lc0 L f m q) * Lc2 L f m
theorem col2_eq (L f m q : Int) : col2 L f m q = (2 * (L * L)) * (L * (m * (2 * m + f) * ((m + f) * (m + f) - q))) := by
  unfold col2 Lc0 Lc1 Lc2; grind
theorem col_signs {L f m q : Int} (hL : L ≠ 0) (h2 : Lc2 L f m ≠ 0) (h1 : col2 L f m q ≠ 0) (h0 : Lc0 L f m q ≠ 0) :
    (sc [L, Lc2 L f m, col2 L f m q, Lc0 L f m q] : Int) = (if m > 0 ∧ (q < 0 ∨ m * m > q) then 2 else if q ≥ 0 ∧ (m > 0 ∨ m * m < q) then 1 else 0) + (if f > 0 then 1 else 0) := by
  have hLL : 0 < 2 * (L * L) := by have := sqpos hL; omega
  have e2 : Lc2 L f m = L * (-(2 * m + f)) := by unfold Lc2; grind
  have e0 : Lc0 L f m q = L * (-(f * (m * m - q))) := by unfold Lc0; grind
  have R := routh (m := m) (f := f) (q := q) (fun z => h2 (by rw [e2, z]; simp)) (fun z => h1 (by rw [col2_eq, z]; simp)) (fun z => h0 (by rw [e0, z]; simp))
  rw [← R]
  have S := sc_scale hL [1, -(2 * m + f), m * (2 * m + f) * ((m + f) * (m + f) - q), -(f * (m * m - q))]
  rw [← S]
  congr 1
  unfold sc sgn
  simp only [List.map_cons, List.map_nil]
  rw [col2_eq, sg_scale hLL, e2, e0, Int.mul_one]
theorem eqqL_rep {d : D} {n : Nat} (h : D.eqq 7 d d = some true) : D.eqq 8 (.list (List.replicate n d)) (.list (List.replicate n d)) = some true := by
  exact (if_pos rfl).trans (eqqL_self fun x hx => by rw [List.eq_of_mem_replicate hx]; exact h)
theorem filtM_none {α : Type} {f : D → Option (Option D)} {g : α → D} : ∀ {xs : List α}, (∀ x ∈ xs, f (g x) = some none) → filtM f (xs.map g) = some []
  | [], _ => rfl
  | a :: _, k => fm_skip (k a (.head _)) (filtM_none fun x hx => k x (.tail _ hx))
theorem phase_g {L f m q v w : Int} {b : Bool} {way turn : Int} {r : Rho} (T : SF L f m q v w b way turn r) (hL : L ≠ 0) (bL : bd 12 L) (bf : bd 24 f) (bm : bd 24 m) (bq : bd 28 q) :
    ∃ r', execs C3 r [l19, l20, l21, l22, l23, l24] = some (.ret (.bool true), r') := by
  refine bC fun z_ => ?_
  (obtain ⟨b0, b1, b2⟩ := wh_bd bL bf bm bq) <;> refine z_ ?_ <;> clear z_
  -- the column
  have e19 : exec C3 r l19 = some (.next, r.set 42 (.list ([L, Lc2 L f m, col2 L f m q, Lc0 L f m q].map .int))) := by
    have s3 : ev C3 r (.sub (.var 12) (.lit (.int 3))) = some (.int L) := e_sub (o_var T.b.h12) e_int rfl
    have s2 : ev C3 r (.sub (.var 12) (.lit (.int 2))) = some (.int (Lc2 L f m)) := e_sub (o_var T.b.h12) e_int rfl
    have s1 : ev C3 r (.sub (.var 12) (.lit (.int 1))) = some (.int (Lc1 L f m q)) := e_sub (o_var T.b.h12) e_int rfl
    have s0 : ev C3 r (.sub (.var 12) (.lit (.int 0))) = some (.int (Lc0 L f m q)) := e_sub (o_var T.b.h12) e_int rfl
    have k1 : bd 173 (Lc2 L f m * Lc1 L f m q - L * Lc0 L f m q) := (b2.mul b1).add ((bL.mul b0).neg.mono (by omega))
    have c := e_mul (e_sbt (e_mul s2 s1 b2 b1) (e_mul s3 s0 bL b0)) s2 k1 b2
    exact ex_assign (e_list (e_cons s3 (e_cons s2 (e_cons c (e_cons s0 e_nil)))) (by simp))
  have T1 := T.set (i := 42) (d := .list ([L, Lc2 L f m, col2 L f m q, Lc0 L f m q].map .int)) (by decide)
  have k42 : (r.set 42 (.list ([L, Lc2 L f m, col2 L f m q, Lc0 L f m q].map .int))) 42 = some (false, .list ([L, Lc2 L f m, col2 L f m q, Lc0 L f m q].map .int)) := set_eq
  generalize r.set 42 (.list ([L, Lc2 L f m, col2 L f m q, Lc0 L f m q].map .int)) = r1 at *
  -- the pairs
  generalize hpa : (if m > 0 ∧ (q < 0 ∨ m * m > q) then (2 : Int) else if q ≥ 0 ∧ (m > 0 ∨ m * m < q) then 1 else 0) = pa
  have e20 : exec C3 r1 l20 = some (.next, r1.set 43 (.int pa)) := by
    have mm := e_mul (C := C3) (e_var T1.b.w.h3) (e_var T1.b.w.h3) bm bm
    have c1 := b_and (C := C3) (p_cmp (op := .gt) (e_var T1.b.w.h3) (e_int (i := 0)) (c_gt _ _)) (b_or (p_cmp (op := .lt) (e_var T1.b.w.h4) (e_int (i := 0)) (c_lt _ _)) (p_cmp (op := .gt) mm (e_var T1.b.w.h4) (c_gt _ _)))
    have c2 := b_and (C := C3) (p_cmp (op := .ge) (e_var T1.b.w.h4) (e_int (i := 0)) (c_ge _ _)) (b_or (p_cmp (op := .gt) (e_var T1.b.w.h3) (e_int (i := 0)) (c_gt _ _)) (p_cmp (op := .lt) mm (e_var T1.b.w.h4) (c_lt _ _)))
    have c := ite_int c1 (e_int (i := 2)) (ite_int c2 (e_int (i := 1)) (e_int (i := 0)))
    simp only [Bool.and_eq_true, Bool.or_eq_true, decide_eq_true_eq] at c
    rw [hpa] at c
    exact ex_assign c
  have T2 := T1.set (i := 43) (d := .int pa) (by decide)
  have m42 := (set_ne (r := r1) (i := 43) (d := .int pa) (by decide)).trans k42
  have m43 : (r1.set 43 (.int pa)) 43 = some (false, .int pa) := set_eq
  generalize r1.set 43 (.int pa) = r2 at *
  have e21 : exec C3 r2 l21 = some (.next, r2) := by
    have q1 : evB C3 r2 (.plain (.mem true (.lit (.int 0)) (.var 42))) = some (!(([L, Lc2 L f m, col2 L f m q, Lc0 L f m q] : List Int).contains 0)) := by
      refine p_of ?_
      exact bs e_int (bs (o_var m42) (bs rfl rfl))
    have q2 := p_nei (C := C3) (e_chg (e_var m42) (show 4 ≤ 4 by decide)) (e_add (e_var m43) (ite_int (p_cmp (op := .gt) (e_var T2.b.w.h2) (e_int (i := 0)) (c_gt _ _)) (e_int (i := 1)) (e_int (i := 0))))
    have qq := b_and q1 q2
    have : (!(([L, Lc2 L f m, col2 L f m q, Lc0 L f m q] : List Int).contains 0) && !decide ((sc [L, Lc2 L f m, col2 L f m q, Lc0 L f m q] : Int) = pa + (if decide (f > 0) = true then 1 else 0))) = false := by
      cases hc : ([L, Lc2 L f m, col2 L f m q, Lc0 L f m q] : List Int).contains 0
      · have hc' : ¬ (0 : Int) ∈ [L, Lc2 L f m, col2 L f m q, Lc0 L f m q] := fun h => by
          rw [List.contains_iff_mem.mpr h] at hc; cases hc
        simp only [List.mem_cons, List.not_mem_nil, or_false, not_or] at hc'
        have := col_signs hL (Ne.symm hc'.2.1) (Ne.symm hc'.2.2.1) (Ne.symm hc'.2.2.2)
        rw [this, hpa]
        simp
      · rfl
    rw [this] at qq
    exact ex_false qq
  have e22 : exec C3 r2 l22 = some (.next, r2) := by
    have hx : ev C3 r2 (.comp [46] [4] (.plain (.var 23)) (some (.plain (.mem true (.var 46) (.plain (.ite (.plain (.cmp .ge (.var 4) (.lit (.int 0)))) (.list [(.lit (.int 0))]) (.list [(.lit (.int 0)), (.lit (.int 2))])))))) (.var 46)) = some (.list []) := by
      refine ev_comp (i_list (e_var T2.h23)) (hb100 (show 4 ≤ 1000 by decide)) (filtM_none fun y _ => ?_) (hb100 (show 0 ≤ 1000 by decide))
      have gv := gap_vals (y - m) (f - m) q
      generalize gapN (y - m) (f - m) q = g at *
      have z4 : ((r2.block [4]).set 46 (.int g)) 4 = some (false, .int q) := set_k (blk T2.b.w.h4)
      have z46 : ((r2.block [4]).set 46 (.int g)) 46 = some (false, .int g) := set_eq
      generalize hR : (r2.block [4]).set 46 (.int g) = r3 at *
      have cq := p_cmp (C := C3) (op := .ge) (e_var z4) (e_int (i := 0)) (c_ge _ _)
      have cl : ev C3 r3 (.ite (.plain (.cmp .ge (.var 4) (.lit (.int 0)))) (.list [(.lit (.int 0))]) (.list [(.lit (.int 0)), (.lit (.int 2))])) = some (.list ((if q ≥ 0 then ([0] : List Int) else [0, 2]).map .int)) := by
        rw [e_ite cq]
        by_cases z : q ≥ 0
        · rw [if_pos (decide_eq_true z), if_pos z]; rfl
        · rw [if_neg (fun h => z (of_decide_eq_true h)), if_neg z]; rfl
      have cm : evB C3 r3 (.plain (.mem true (.var 46) (.plain (.ite (.plain (.cmp .ge (.var 4) (.lit (.int 0)))) (.list [(.lit (.int 0))]) (.list [(.lit (.int 0)), (.lit (.int 2))]))))) = some false := by
        refine p_of (bs (e_var z46) (bs cl ?_))
        by_cases z : q ≥ 0
        · have := gv.1 z
          subst this
          rw [if_pos z]; rfl
        · rw [if_neg z]
          rcases gv.2 (by omega) with k | k
          · subst k; rfl
          · subst k; rfl
      subst hR
      exact comp_if (q := .none) cm fun h => nomatch h
    exact ex_false (p_ne hx (y := .list []) rfl rfl)
  refine bC fun z_ => ?_
  (obtain ⟨xs, hxs, h24⟩ := T2.h24) <;> refine z_ ?_ <;> clear z_
  have ea := e_addL (C := C3) (e_var h24) (e_var m42) (by simp; omega)
  generalize hys : xs ++ [L, Lc2 L f m, col2 L f m q, Lc0 L f m q] = ys at *
  have hyl : ys.length ≤ 104 := by rw [← hys]; simp; omega
  have e23 : exec C3 r2 l23 = some (.next, r2.set 44 (.list (ys.map fun _ => .list [.bool true, .bool true, .bool true]))) := by
    refine ex_assign (ev_mapc (i_list ea) (by omega) fun x _ => comp_one ?_)
    have z25 : ((r2.block []).set 25 (.int x)) 25 = some (false, .int x) := set_eq
    generalize (r2.block []).set 25 (.int x) = r3 at *
    have c1 := e_call (C := C3) (r := r3) (f := 87) (e_cons (e_var z25) e_nil) (F_ISEOF_eq x)
    have a2 := e_add (C := C3) (e_int (i := 256)) (e_var z25)
    have c2 := e_call (C := C3) (r := r3) (f := 73) (e_cons a2 e_nil) (F_IST_eq _)
    have c3 := e_call (C := C3) (r := r3) (f := 80) (e_cons a2 e_nil) (F_ISN_eq _)
    have d1 := e_cmp (C := C3) (op := .eq) (e_var z25) (e_int (i := 0)) (c_eq _ _)
    have d2 := e_cmp (C := C3) (op := .lt) (e_var z25) (e_int (i := 0)) (c_lt _ _)
    have d3 := e_cmp (C := C3) (op := .ge) (e_var z25) (e_int (i := 0)) (c_ge _ _)
    have i1 := e_cmp (C := C3) (op := .is) (z := true) c1 d1 (congrArg some (beq_self_eq_true _))
    have i2 := e_cmp (C := C3) (op := .is) (z := true) c2 d2 (by
      have : decide (256 + x < 256) = decide (x < 0) := by rw [Bool.eq_iff_iff]; simp only [decide_eq_true_eq]; omega
      rw [this]; exact congrArg some (beq_self_eq_true _))
    have i3 := e_cmp (C := C3) (op := .is) (z := true) c3 d3 (by
      have : decide (256 + x ≥ 256) = decide (x ≥ 0) := by rw [Bool.eq_iff_iff]; simp only [decide_eq_true_eq]; omega
      rw [this]; exact congrArg some (beq_self_eq_true _))
    exact e_list (e_cons i1 (e_cons i2 (e_cons i3 e_nil))) (show 3 ≤ 100 by decide)
  have hrep : (ys.map fun _ => D.list [.bool true, .bool true, .bool true]) = List.replicate ys.length (.list [.bool true, .bool true, .bool true]) := by
    clear e23 hys hyl ea
    induction ys with
    | nil => rfl
    | cons a ys ih => rw [List.map_cons, ih]; rfl
  rw [hrep] at e23
  refine ⟨(r2.set 44 (.list (List.replicate ys.length (.list [.bool true, .bool true, .bool true])))).freeze, ?_⟩
  rw [execs_next e19, execs_next e20, execs_next e21, execs_next e22, execs_next e23]
  have f44 : ((r2.set 44 (.list (List.replicate ys.length (.list [.bool true, .bool true, .bool true])))).freeze) 44 = some (false, .list (List.replicate ys.length (.list [.bool true, .bool true, .bool true]))) := frz set_eq
  refine x_ret ?_
  generalize (r2.set 44 (.list (List.replicate ys.length (.list [.bool true, .bool true, .bool true])))).freeze = r3 at *
  have c1 : ev C3 r3 (.len (.var 44)) = some (.int ys.length) := bs (o_var f44) ((if_pos (hb100 (by rw [List.length_replicate]; omega))).trans (by rw [List.length_replicate]))
  have c2 : ev C3 r3 (.bin .mul (.list [(.list [(.lit (.bool true)), (.lit (.bool true)), (.lit (.bool true))])]) (.len (.var 44))) = some (.list (List.replicate ys.length (.list [.bool true, .bool true, .bool true]))) := by
    refine e_bin (x := .list [.list [.bool true, .bool true, .bool true]]) rfl c1 ((if_pos (by omega)).trans (by rw [Int.toNat_natCast]))
  exact e_cmp (op := .eq) (e_var f44) c2 (eqqL_rep rfl)
/- the pure law -/
theorem F_law_true (l : List Int) (h : l.length ≤ 63) : F_law [.list (l.map .int)] = some (.bool true) := by
  refine bC fun z_ => ?_
  (obtain ⟨L, f, m, q, v, w, hL, bL, bf, bm, bq, bv, hw, hF⟩ := F_world l h) <;> refine z_ ?_ <;> clear z_
  show run C3 ss_law [.list (l.map .int)] = _
  refine bC fun z_ => ?_
  (obtain ⟨r1, T1, x1⟩ := phase_a hF ⟨_, rfl⟩ bL bf bm bq) <;> refine z_ ?_ <;> clear z_
  refine bC fun z_ => ?_
  (obtain ⟨r2, T2, x2⟩ := phase_b T1 bL bf bm bq) <;> refine z_ ?_ <;> clear z_
  refine bC fun z_ => ?_
  (obtain ⟨ck, r3, T3, x3⟩ := phase_c T2 rfl hL bL bf bm bq) <;> refine z_ ?_ <;> clear z_
  refine bC fun z_ => ?_
  (obtain ⟨r4, T4, x4⟩ := phase_d T3 ck hL bf bm) <;> refine z_ ?_ <;> clear z_
  refine bC fun z_ => ?_
  (obtain ⟨r5, T5, x5⟩ := phase_e T4 ck hL bL bf bm bq bv) <;> refine z_ ?_ <;> clear z_
  refine bC fun z_ => ?_
  (obtain ⟨r6, way, turn, bw, bt, T6, h35, x6⟩ := phase_f0 T5) <;> refine z_ ?_ <;> clear z_
  refine bC fun z_ => ?_
  (obtain ⟨r7, T7, x7⟩ := phase_f T6 bw bt h35) <;> refine z_ ?_ <;> clear z_
  obtain ⟨r8, x8⟩ := phase_g T7 hL bL bf bm bq
  refine run_of (r := r8) ?_
  rw [ss_law_eq, x1, execs_next x2, execs_next x3, x4, execs_next x5, x6, execs_next x7, x8]
end Mine
end

/- part JA -/
section
open PySem PySem.W PyProof.Rows PySem.Calls PySem.Spec PyProof.V
set_option maxRecDepth 100000
namespace Mine
theorem dictD (P : Params) : ∃ es n, (KK P).lookup 64 = some ⟨.type "dict", none, .dict es n, #[]⟩ ∧ KeysLit P es.toList := by
  refine ⟨_, _, rfl, ?_⟩
  repeat (first | exact True.intro | refine And.intro ⟨_, _, rfl, rfl⟩ ?_)
theorem nsP (P : Params) : nsIn (KK P) 64 (Str.ofString "+") = some (some (.int 14 294)) := by kernel_rfl
theorem nsM (P : Params) : nsIn (KK P) 64 (Str.ofString "-") = some (some (.int 15 296)) := by kernel_rfl
theorem signs_ok {w : World} {mg mb : Str → Option Value} : (UU w mg mb).Signs := by
  intro A s x t i Q E hx hB h
  refine bC fun z_ => ?_
  (obtain ⟨es, n, hl, hk⟩ := dictD w.params) <;> refine z_ ?_ <;> clear z_
  have hm := mapOf_K (prog := pw) (w := w) hB.ins hl hk
  refine ⟨hm.typeIs, ?_⟩
  rcases hx with ⟨rfl, rfl⟩ | ⟨rfl, rfl⟩
  · exact wpAny_getItem_of (strKind_is pw w _ t) hm (find_K hl (nsP _)) (h _ _)
  · exact wpAny_getItem_of (strKind_is pw w _ t) hm (find_K hl (nsM _)) (h _ _)
theorem law_ok {w : World} {mg mb : Str → Option Value} : CallOk (UU w mg mb) 5 143 F_law := ok_law signs_ok
end Mine
end

/- part JB -/
section
open PySem PySem.W PyProof.Rows PySem.Calls PySem.Spec PyProof.V
set_option maxRecDepth 100000
namespace Mine
theorem rcAdd : ((recsOf vw).find? (fun e => e.name == Str.ofString "add_callers")).isSome = true := by decide +kernel
theorem lkLaw (P : Params) : nsIn (KK P) mainGlobals (Str.ofString "law") = some (some (.ref 143)) := by kernel_rfl
theorem lkAdd (P : Params) : nsIn (KK P) mainGlobals (Str.ofString "add_callers") = some (some (.ref 63)) := by kernel_rfl
theorem kt58 (P : Params) : (KK P).lookup tabP = none := by kernel_rfl
noncomputable def cdArr (P : Params) : Array Value := match (KK P).lookup 62 with | some o => (match o.data with | .fields vs => vs | _ => #[]) | none => #[]
noncomputable def cdObj (P : Params) : Obj := ⟨.type "code", none, .fields (cdArr P), #[]⟩
theorem lk62 (P : Params) : (KK P).lookup 62 = some (cdObj P) := by kernel_rfl
theorem at11 (P : Params) : (cdArr P)[11]? = some (.ref 58) := by kernel_rfl
theorem lk63 (P : Params) : (fdOf P 63).isSome = true := by kernel_rfl
theorem cd63 (P : Params) : (fdG P 63 (lk63 P)).code = .ref 62 := by kernel_rfl
theorem fd_at {P : Params} {a : Addr} (h : (fdOf P a).isSome = true) : ∃ o, (KK P).lookup a = some o ∧ o.data = .func (fdG P a h) := by
  have he : fdOf P a = some (fdG P a h) := by unfold fdG; simp
  unfold fdOf at he
  split at he
  · rename_i o ho
    split at he
    · rename_i fd hfd
      cases he
      exact ⟨o, ho, hfd⟩
    · cases he
  · cases he
theorem tab_start {w : World} {h : Heap} {loose : List Str} {mean : ExcName → Option Value} {mg mb : Str → Option Value} (X : (KK w.params).In h) (T : Top vw loose mean mg mb h) :
    h.get? tabP = some { cls := .none, data := .fields #[] } ∧ h.TableAt cdP tabP #[] ∧ TabOk h := by
  obtain ⟨d, hd'⟩ := Option.isSome_iff_exists.mp rcAdd
  have hn : d.name = Str.ofString "add_callers" := beq_iff_eq.mp (List.find?_some (p := fun e : DefRec => e.name == Str.ofString "add_callers") hd')
  obtain ⟨a, o, fd, c, P', h1, h2, h3, h4, h5, h6⟩ := T.tab d (List.mem_of_find?_eq_some hd')
  rw [hn, mg_of X T.g (lkAdd _)] at h1
  cases h1
  refine bC fun z_ => ?_
  (obtain ⟨o', ho', hf'⟩ := fd_at (lk63 w.params)) <;> refine z_ ?_ <;> clear z_
  have := X _ _ ho'
  rw [h2] at this; cases this
  rw [h3] at hf'; cases hf'
  rw [cd63] at h4; cases h4
  have hP : P' = 58 := by
    refine bC fun z_ => ?_
    (obtain ⟨⟨o2, vs, g1, g2, g3, g4⟩, _⟩ := h6) <;> refine z_ ?_ <;> clear z_
    rw [X _ _ (lk62 w.params)] at g1
    cases g1
    have : vs = cdArr w.params := by
      have : (cdObj w.params).data = .fields (cdArr w.params) := rfl
      rw [this] at g3; cases g3; rfl
    rw [this, at11] at g4
    cases g4; rfl
  subst hP
  exact ⟨h6.2, h6, #[], h5, h6, .inl rfl⟩
theorem base_start {w : World} {h : Heap} {mean : ExcName → Option Value} {mg mb : Str → Option Value} (X : (KK w.params).In h) (T : Top vw (looseW vw loosN) mean mg mb h) : (UU w mg mb).Base h where
  ins := X
  kt := kt58 _
  top := topRead_of T
  lim := T.nolimit
  tab := (tab_start X T).2.2
  bm := T.bmain
theorem oldK_of {h h' : Heap} (t : h.get? tabP = some { cls := .none, data := .fields #[] }) (t2 : h.TableAt cdP tabP #[]) (t3 : TabOk h) (k : Kp h h') : OldK h h' where
  old := fun b o e => by
    by_cases q : b = tabP
    · subst q
      obtain ⟨ps, e'⟩ := (k.tab t3).live
      rw [t] at e; cases e
      exact .inr (.inl ⟨t2.isCodeTable, rfl, #[], ps, rfl, by rw [e']; simp⟩)
    · exact .inl (k.kp b o q e)
  there := fun b o e => Option.isSome_iff_exists.mp (k.live (by rw [e]; rfl))
theorem room_caller : Room callerA 5 where
  hand := rfl
  depth := by decide +kernel
  units := by decide +kernel
theorem well_ints {P : Params} {h : Heap} {G : PH} : ∀ {ns : List Int} {vs : List Value}, WellAll P h vs (ofPys (ns.map PyData.int)) → RepL G (ns.map D.int) vs
  | [], vs, x => by
    simp only [List.map_nil, ofPys] at x ⊢
    cases x; exact RepL.nil
  | n :: ns, vs, x => by
    simp only [List.map_cons, ofPys, ofPy] at x ⊢
    cases x with
    | cons a b =>
      cases a
      exact RepL.cons (by simp only [Rep]; exact ⟨_, rfl⟩) (well_ints b)
theorem well_script {P : Params} {h : Heap} {ns : List Int} {a : Addr} (x : Well P h (.ref a) (ofPy (.list (ns.map PyData.int)))) : ∃ vs : List Value, h.get? a = some (lstO vs.toArray 0) ∧ ∀ G, RepL G (ns.map D.int) vs := by
  simp only [ofPy] at x
  cases x with
  | list hg hw => exact ⟨_, hg, fun G => well_ints hw⟩
noncomputable abbrev lawGood (w : World) (s₀ s₁ : Shared) (ns : List Int) (r : Result) (s' : Shared) : Prop :=
  GoodWG PySem.Challenge.rw_xb0028_01.row.claim (classAt s₀.heap) (ExcName.means s₀.heap) [ofPy (PyData.list (ns.map PyData.int))] s₁ r s'
theorem join_law {w : World} {s₀ s₁ : Shared} {mg mb : Str → Option Value} {mean : ExcName → Option Value} {fa a : Addr} {ns : List Int} (hF : F_law [.list (ns.map .int)] = some (.bool true))
    (X : (KK w.params).In s₁.heap) (T : Top vw (looseW vw loosN) mean mg mb s₁.heap) (hm : mg (Str.ofString "law") = some (.ref fa)) (hg : s₁.gens = #[])
    (hw : Well w.params s₁.heap (.ref a) (ofPy (.list (ns.map PyData.int)))) :
    wpAny (model PySem.Challenge.rw_xb0028_01.row.prog w) callerA (call (.ref fa) [.ref a]) (fun v s' => lawGood w s₀ s₁ ns (.ok (.ret v)) s') (fun e s' => lawGood w s₀ s₁ ns (.error e) s') s₁ := by
  rw [mg_of X T.g (lkLaw _)] at hm
  cases hm
  refine bC fun z_ => ?_
  (obtain ⟨vs, ha, hv⟩ := well_script hw) <;> refine z_ ?_ <;> clear z_
  have B := base_start X T
  refine bC fun z_ => ?_
  (obtain ⟨t1, t2, t3⟩ := tab_start X T) <;> refine z_ ?_ <;> clear z_
  have hne : a ≠ tabP := t3.np_of ha fun _ q => by cases q
  let G : PH := fun b => if b = a then some (lstO vs.toArray 0) else none
  have hG : ∀ b o, G b = some o → s₁.heap.get? b = some o := fun b o e => by
    by_cases q : b = a
    · subst q; simp only [G, if_true] at e; rw [ha]; exact e
    · simp only [G, q, if_false] at e; cases e
  have gt : G tabP = none := if_neg (Ne.symm hne)
  have R : RepL G [.list (ns.map .int)] [.ref a] := RepL.cons (by simp only [Rep]; exact ⟨a, _, _, rfl, if_pos rfl, hv G⟩) RepL.nil
  refine wpAny_mono ((law_ok (w := w) (mg := mg) (mb := mb)).2 callerA s₁ G _ _ _ room_caller B hG gt R hF) (fun v s' h_ => ?_) fun _ _ f => f.elim
  refine bC fun z_ => ?_
  (obtain ⟨G', x, r⟩ := h_) <;> refine z_ ?_ <;> clear z_
  simp only [Rep] at r
  subst r
  exact ⟨.inl ⟨_, .bool true, [], rfl, fun _ => rfl, .bool true, by wrow_post, fun _ => ⟨.nil, fun _ h => nomatch h⟩⟩, oldK_of t1 t2 t3 x.keep, x.os, x.gens (by rw [hg]; exact .empty)⟩
end Mine
end

open PySem PySem.W PyProof.Rows
set_option maxRecDepth 100000 in
set_option maxHeartbeats 8000000 in
theorem PySem.Challenge.cw_xb0028_01_holds : PySem.Challenge.rw_xb0028_01.Holds := by
  refine Mine.top ?_
  intro w s₀ s₁ mg mb G Y fa o pm cd doc dV kV ho hd hcd hD hmg hg args vals as hpre hlay hrd hwl hlo
  have KX := kIn_of Y
  have hmg' : mg (Str.ofString "law") = some (Value.ref fa) := hmg
  clear hmg Y ho hd hcd hD
  refine Ground.open G ?_
  intro T B D TE TW
  clear G B D TE TW
  wrow_args hpre hlay hrd hwl hlo
  exact Mine.join_law (Mine.F_law_true _ (by omega)) KX T hmg' hg (by assumption)
