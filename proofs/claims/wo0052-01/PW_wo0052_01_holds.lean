import PyProof.Rows.All
import Wide.All
import OpenK.AllK
import Wide.FinOn
import PySem.Challenge.RW_wo0052_01
open PySem PySem.W PyProof.Rows
set_option Elab.async false
set_option linter.all false
namespace Mine
set_option maxRecDepth 100000

noncomputable def en (P : Params) (x : Str) (t : Tok) (v : Value) : DictEntry := ⟨PyData.keyHash P x, .str x t, v⟩
noncomputable def topAt (i : Nat) : Stmt := (PySem.Challenge.pw_wo0052_01.main.body[i]?).getD (.Pass ⟨0, 0, 0, 0⟩)
noncomputable def fnBody : Stmt → List Stmt
  | .FunctionDef _ _ body _ _ _ _ _ _ _ => body
  | _ => []
noncomputable def fnNames : Stmt → List (Str × NameKind)
  | .FunctionDef _ _ _ _ _ _ sc _ _ _ => sc.names
  | _ => []
noncomputable def bodyAt (i : Nat) : List Stmt := fnBody (topAt i)
noncomputable def kdAt (i : Nat) : List (Str × NameKind) := fnNames (topAt i)

noncomputable def fnName : Stmt → Str
  | .FunctionDef name _ _ _ _ _ _ _ _ _ => name
  | _ => ""
noncomputable def fnArgs : Stmt → Arguments
  | .FunctionDef _ args _ _ _ _ _ _ _ _ => args
  | _ => default
noncomputable def fnScope : Stmt → Scope
  | .FunctionDef _ _ _ _ _ _ sc _ _ _ => sc
  | _ => default
noncomputable def fdAt (i : Nat) (pm : Str) (pt : Tok) (cd : Addr) : FuncData := { name := fnName (topAt i), qualname := fnName (topAt i), params := fnArgs (topAt i), body := .stmts (bodyAt i), scope := fnScope (topAt i), globals := mainGlobals, closure := [], defaults := .none, kwdefaults := .none, pyModule := .str pm pt, code := .ref cd, builtins := builtinsNs }
noncomputable def fo (i : Nat) (pm : Str) (pt : Tok) (cd : Addr) : Obj := ⟨.type "function", none, .func (fdAt i pm pt cd), #[]⟩
noncomputable def co (nm : Str) (t : Tok) (ln n : Int) (a b c d e f g h : Value) : Obj :=
  ⟨.type "code", none, .fields #[.str nm t, .str nm (t + 1), .str "/claim/cut.py" (t + 2), .int ln 0, .int n 0, .int 0 0, .int 0 0, .int 3 0, a, .bool true, .int 181 0, b, c, d, e, f, g, .int ln 0, h], #[]⟩
noncomputable def heapK (P : Params) : Frag := [
  (3, ⟨(Value.type "dict"), none, .dict #[en P "__name__" 165 (.str "law_wo0052_01" 570), en P "__doc__" 166 .none, en P "__package__" 167 .none, en P "__loader__" 168 (.builtin "__main__.__loader__#opaque"), en P "__spec__" 169 .none, en P "__annotations__" 170 (.ref 6), en P "__builtins__" 171 (.ref 4), en P "__file__" 173 (.str "/claim/cut.py" 172), en P "__cached__" 174 .none, en P "add" 196 (.ref 21), en P "and_" 204 (.ref 28), en P "inv" 211 (.ref 35), en P "mul" 219 (.ref 42), en P "sub" 227 (.ref 49), en P "xor" 235 (.ref 56), en P "Error" 257 (.ref 66), en P "error_reply" 273 (.ref 79), en P "error_proto" 289 (.ref 91), en P "parse229" 302 (.ref 100), en P "parse257" 313 (.ref 107), en P "ENDMARKER" 317 (.int 0 316), en P "LPAR" 319 (.int 7 318), en P "RPAR" 321 (.int 8 320), en P "LSQB" 323 (.int 9 322), en P "RSQB" 325 (.int 10 324), en P "COLON" 327 (.int 11 326), en P "COMMA" 329 (.int 12 328), en P "SEMI" 331 (.int 13 330), en P "PLUS" 333 (.int 14 332), en P "MINUS" 335 (.int 15 334), en P "STAR" 337 (.int 16 336), en P "SLASH" 339 (.int 17 338), en P "VBAR" 341 (.int 18 340), en P "AMPER" 343 (.int 19 342), en P "LESS" 345 (.int 20 344), en P "GREATER" 347 (.int 21 346), en P "EQUAL" 349 (.int 22 348), en P "DOT" 351 (.int 23 350), en P "PERCENT" 353 (.int 24 352), en P "LBRACE" 355 (.int 25 354), en P "RBRACE" 357 (.int 26 356), en P "EQEQUAL" 359 (.int 27 358), en P "NOTEQUAL" 361 (.int 28 360), en P "LESSEQUAL" 363 (.int 29 362), en P "GREATEREQUAL" 365 (.int 30 364), en P "TILDE" 367 (.int 31 366), en P "CIRCUMFLEX" 369 (.int 32 368), en P "LEFTSHIFT" 371 (.int 33 370), en P "RIGHTSHIFT" 373 (.int 34 372), en P "DOUBLESTAR" 375 (.int 35 374), en P "PLUSEQUAL" 377 (.int 36 376), en P "MINEQUAL" 379 (.int 37 378), en P "STAREQUAL" 381 (.int 38 380), en P "SLASHEQUAL" 383 (.int 39 382), en P "PERCENTEQUAL" 385 (.int 40 384), en P "AMPEREQUAL" 387 (.int 41 386), en P "VBAREQUAL" 389 (.int 42 388), en P "CIRCUMFLEXEQUAL" 391 (.int 43 390), en P "LEFTSHIFTEQUAL" 393 (.int 44 392), en P "RIGHTSHIFTEQUAL" 395 (.int 45 394), en P "DOUBLESTAREQUAL" 397 (.int 46 396), en P "DOUBLESLASH" 399 (.int 47 398), en P "DOUBLESLASHEQUAL" 401 (.int 48 400), en P "AT" 403 (.int 49 402), en P "ATEQUAL" 405 (.int 50 404), en P "RARROW" 407 (.int 51 406), en P "ELLIPSIS" 409 (.int 52 408), en P "COLONEQUAL" 411 (.int 53 410), en P "EXCLAMATION" 413 (.int 54 412), en P "NT_OFFSET" 415 (.int 256 414), en P "EXACT_TOKEN_TYPES" 512 (.ref 108), en P "ISTERMINAL" 519 (.ref 117), en P "ISNONTERMINAL" 526 (.ref 124), en P "ISEOF" 533 (.ref 131), en P "_MAX_STRING_SIZE" 537 (.int 40 536), en P "_MOVE_COST" 539 (.int 2 538), en P "_CASE_COST" 541 (.int 1 540), en P "_substitution_cost" 549 (.ref 138), en P "_levenshtein_distance" 569 (.ref 145), en P "_law_read" 580 (.ref 152), en P "_law_symbols" 589 (.ref 159), en P "_law_values" 602 (.ref 166), en P "_law_column" 609 (.ref 173), en P "_law_differ" 615 (.ref 178), en P "_law_word" 621 (.ref 183), en P "law" 627 (.ref 188)] 86, #[]⟩),
  (20, co "add" 189 2 2 (.ref 15) (.ref 16) .none (.ref 17) (.ref 18) (.ref 19) (.int 194 0) (.str "/claim/cut.py" 195)),
  (21, fo 1 "cpy313.operator" 187 20),
  (27, co "and_" 197 4 2 (.ref 22) (.ref 23) .none (.ref 24) (.ref 25) (.ref 26) (.int 202 0) (.str "/claim/cut.py" 203)),
  (28, fo 2 "cpy313.operator" 187 27),
  (34, co "inv" 205 6 1 (.ref 29) (.ref 30) .none (.ref 31) (.ref 32) (.ref 33) (.int 209 0) (.str "/claim/cut.py" 210)),
  (35, fo 3 "cpy313.operator" 187 34),
  (41, co "mul" 212 8 2 (.ref 36) (.ref 37) .none (.ref 38) (.ref 39) (.ref 40) (.int 217 0) (.str "/claim/cut.py" 218)),
  (42, fo 4 "cpy313.operator" 187 41),
  (48, co "sub" 220 10 2 (.ref 43) (.ref 44) .none (.ref 45) (.ref 46) (.ref 47) (.int 225 0) (.str "/claim/cut.py" 226)),
  (49, fo 5 "cpy313.operator" 187 48),
  (55, co "xor" 228 12 2 (.ref 50) (.ref 51) .none (.ref 52) (.ref 53) (.ref 54) (.int 233 0) (.str "/claim/cut.py" 234)),
  (56, fo 6 "cpy313.operator" 187 55),
  (65, ⟨(Value.type "dict"), none, .dict #[en P "__module__" 245 (.str "cpy313.ftplib" 236), en P "__firstlineno__" 249 (.int 15 248), en P "__static_attributes__" 250 (.ref 64), en P "__weakref__" 252 (.ref 67), en P "__doc__" 253 .none] 3, #[]⟩),
  (66, ⟨(Value.type "type"), none, .cls ⟨"Error", [(.type "Exception")], [(.ref 66), (.type "Exception"), (.type "BaseException"), (.type "object")], 65, "Error", true, [], [(.ref 79), (.ref 91)], false, none, false⟩, #[some (.ref 57), none, some (.str "Error" 238), some (.str "Error" 246), some (.builtin "Exception.__new__"), some (.bool true)]⟩),
  (78, ⟨(Value.type "dict"), none, .dict #[en P "__module__" 265 (.str "cpy313.ftplib" 236), en P "__firstlineno__" 269 (.int 17 268), en P "__static_attributes__" 270 (.ref 77), en P "__doc__" 271 .none] 2, #[]⟩),
  (79, ⟨(Value.type "type"), none, .cls ⟨"error_reply", [(.ref 66)], [(.ref 79), (.ref 66), (.type "Exception"), (.type "BaseException"), (.type "object")], 78, "error_reply", true, [], [], false, none, false⟩, #[some (.ref 70), none, some (.str "error_reply" 258), some (.str "error_reply" 266), some (.builtin "Exception.__new__"), some (.bool true)]⟩),
  (90, ⟨(Value.type "dict"), none, .dict #[en P "__module__" 281 (.str "cpy313.ftplib" 236), en P "__firstlineno__" 285 (.int 19 284), en P "__static_attributes__" 286 (.ref 89), en P "__doc__" 287 .none] 2, #[]⟩),
  (91, ⟨(Value.type "type"), none, .cls ⟨"error_proto", [(.ref 66)], [(.ref 91), (.ref 66), (.type "Exception"), (.type "BaseException"), (.type "object")], 90, "error_proto", true, [], [], false, none, false⟩, #[some (.ref 82), none, some (.str "error_proto" 274), some (.str "error_proto" 282), some (.builtin "Exception.__new__"), some (.bool true)]⟩),
  (99, co "parse229" 290 21 2 (.ref 94) (.ref 95) .none (.ref 96) (.ref 97) (.ref 98) (.int 300 0) (.str "/claim/cut.py" 301)),
  (100, fo 11 "cpy313.ftplib" 236 99),
  (106, co "parse257" 303 38 1 (.ref 101) (.ref 102) .none (.ref 103) (.ref 104) (.ref 105) (.int 311 0) (.str "/claim/cut.py" 312)),
  (107, fo 12 "cpy313.ftplib" 236 106),
  (108, ⟨(Value.type "dict"), none, .dict #[en P "!" 416 (.int 54 412), en P "!=" 418 (.int 28 360), en P "%" 420 (.int 24 352), en P "%=" 422 (.int 40 384), en P "&" 424 (.int 19 342), en P "&=" 426 (.int 41 386), en P "(" 428 (.int 7 318), en P ")" 430 (.int 8 320), en P "*" 432 (.int 16 336), en P "**" 434 (.int 35 374), en P "**=" 436 (.int 46 396), en P "*=" 438 (.int 38 380), en P "+" 440 (.int 14 332), en P "+=" 442 (.int 36 376), en P "," 444 (.int 12 328), en P "-" 446 (.int 15 334), en P "-=" 448 (.int 37 378), en P "->" 450 (.int 51 406), en P "." 452 (.int 23 350), en P "..." 454 (.int 52 408), en P "/" 456 (.int 17 338), en P "//" 458 (.int 47 398), en P "//=" 460 (.int 48 400), en P "/=" 462 (.int 39 382), en P ":" 464 (.int 11 326), en P ":=" 466 (.int 53 410), en P ";" 468 (.int 13 330), en P "<" 470 (.int 20 344), en P "<<" 472 (.int 33 370), en P "<<=" 474 (.int 44 392), en P "<=" 476 (.int 29 362), en P "=" 478 (.int 22 348), en P "==" 480 (.int 27 358), en P ">" 482 (.int 21 346), en P ">=" 484 (.int 30 364), en P ">>" 485 (.int 34 372), en P ">>=" 486 (.int 45 394), en P "@" 487 (.int 49 402), en P "@=" 488 (.int 50 404), en P "[" 489 (.int 9 322), en P "]" 490 (.int 10 324), en P "^" 491 (.int 32 368), en P "^=" 492 (.int 43 390), en P "{" 493 (.int 25 354), en P "|" 494 (.int 18 340), en P "|=" 495 (.int 42 388), en P "}" 496 (.int 26 356), en P "~" 497 (.int 31 366)] 48, #[]⟩),
  (116, co "ISTERMINAL" 513 107 1 (.ref 111) (.ref 112) .none (.ref 113) (.ref 114) (.ref 115) (.int 517 0) (.str "/claim/cut.py" 518)),
  (117, fo 65 "cpy313.token" 314 116),
  (123, co "ISNONTERMINAL" 520 109 1 (.ref 118) (.ref 119) .none (.ref 120) (.ref 121) (.ref 122) (.int 524 0) (.str "/claim/cut.py" 525)),
  (124, fo 66 "cpy313.token" 314 123),
  (130, co "ISEOF" 527 111 1 (.ref 125) (.ref 126) .none (.ref 127) (.ref 128) (.ref 129) (.int 531 0) (.str "/claim/cut.py" 532)),
  (131, fo 67 "cpy313.token" 314 130),
  (137, co "_substitution_cost" 542 117 2 (.ref 132) (.ref 133) .none (.ref 134) (.ref 135) (.ref 136) (.int 547 0) (.str "/claim/cut.py" 548)),
  (138, fo 72 "cpy313.traceback" 534 137),
  (144, co "_levenshtein_distance" 550 123 3 (.ref 139) (.ref 140) .none (.ref 141) (.ref 142) (.ref 143) (.int 567 0) (.str "/claim/cut.py" 568)),
  (145, fo 73 "cpy313.traceback" 534 144),
  (151, co "_law_read" 572 162 2 (.ref 146) (.ref 147) .none (.ref 148) (.ref 149) (.ref 150) (.int 578 0) (.str "/claim/cut.py" 579)),
  (152, fo 75 "law_wo0052_01" 570 151),
  (158, co "_law_symbols" 581 169 1 (.ref 153) (.ref 154) .none (.ref 155) (.ref 156) (.ref 157) (.int 587 0) (.str "/claim/cut.py" 588)),
  (159, fo 76 "law_wo0052_01" 570 158),
  (165, co "_law_values" 590 178 2 (.ref 160) (.ref 161) .none (.ref 162) (.ref 163) (.ref 164) (.int 600 0) (.str "/claim/cut.py" 601)),
  (166, fo 77 "law_wo0052_01" 570 165),
  (172, co "_law_column" 603 196 1 (.ref 167) (.ref 168) .none (.ref 169) (.ref 170) (.ref 171) (.int 607 0) (.str "/claim/cut.py" 608)),
  (173, fo 78 "law_wo0052_01" 570 172),
  (177, co "_law_differ" 610 198 2 (.ref 174) (.ref 175) .none .none .none (.ref 176) (.int 613 0) (.str "/claim/cut.py" 614)),
  (178, fo 79 "law_wo0052_01" 570 177),
  (182, co "_law_word" 616 207 2 (.ref 179) (.ref 180) .none .none .none (.ref 181) (.int 619 0) (.str "/claim/cut.py" 620)),
  (183, fo 80 "law_wo0052_01" 570 182)]
noncomputable def heapA : List Addr := [3, 20, 21, 27, 28, 34, 35, 41, 42, 48, 49, 55, 56, 65, 66, 78, 79, 90, 91, 99, 100, 106, 107, 108, 116, 117, 123, 124, 130, 131, 137, 138, 144, 145, 151, 152, 158, 159, 165, 166, 172, 173, 177, 178, 182, 183]
theorem heapE (P : Params) : heapA = (heapK P).map (·.1) := rfl
noncomputable def vw : Program := view PySem.Challenge.pw_wo0052_01 [81]
noncomputable def lse : List Str := (PySem.Challenge.pw_wo0052_01.main.scope.names.map (·.1)).filter (· != "law")
noncomputable abbrev hook : Hook := kHook heapK heapA heapE
theorem halfF (w : World) : (openEnds treeTable PySem.Challenge.pw_wo0052_01 (w.withFollow "special-get-raises" false) 5590).map (fun s => (openSeen vw lse (importedModules PySem.Challenge.pw_wo0052_01.main.body) (fun _ => true) true s, hook.obs s)) = some (openGood vw lse, hook.val (w.withFollow "special-get-raises" false)) := by kernel_rfl
theorem halfT (w : World) : (openEnds treeTable PySem.Challenge.pw_wo0052_01 (w.withFollow "special-get-raises" true) 5590).map (fun s => (openSeen vw lse (importedModules PySem.Challenge.pw_wo0052_01.main.body) (fun _ => true) true s, hook.obs s)) = some (openGood vw lse, hook.val (w.withFollow "special-get-raises" true)) := by kernel_rfl
theorem leftO : LeftO PySem.Challenge.pw_wo0052_01 vw lse (fun _ => true) hook.obs hook.val 5590 := byRow2 "special-get-raises" halfF halfT
theorem said0 : PySem.Challenge.rw_wo0052_01.wellSaid = true := by decide +kernel
end Mine
namespace Mine

/-- plain values -/
inductive V where
  | none | bool (b : Bool) | int (i : Int) | str (s : Str) | list (xs : List V) | tup (xs : List V)

noncomputable abbrev KeepsH (h h' : Heap) : Prop := ∀ b o, h.get? b = some o → h'.get? b = some o

mutual
noncomputable def VRep (W : List Addr) (h : Heap) : V → Value → Prop
  | .none, x => x = .none
  | .bool b, x => x = .bool b
  | .int i, x => ∃ t, x = .int i t
  | .str s, x => s.length ≤ 2 ^ 20 ∧ ∃ t, x = .str s t
  | .list xs, x => xs.length ≤ 2 ^ 20 ∧ ∃ a items, x = .ref a ∧ a ∉ W ∧ h.PlainList a items ∧ VReps W h xs items.toList
  | .tup xs, x => ∃ a items, x = .ref a ∧ a ∉ W ∧ h.IsTuple a items ∧ VReps W h xs items.toList
noncomputable def VReps (W : List Addr) (h : Heap) : List V → List Value → Prop
  | [], l => l = []
  | v :: vs, l => ∃ x r, l = x :: r ∧ VRep W h v x ∧ VReps W h vs r
end

noncomputable def isSeqObj (o : Obj) : Prop := ∃ items n, o.data = .seq items n

mutual
theorem VRep.mono {W W' : List Addr} {h h' : Heap} (hW : ∀ a ∈ W', a ∈ W ∨ h.get? a = none) (hk : ∀ b o, b ∉ W → h.get? b = some o → isSeqObj o → h'.get? b = some o) :
    ∀ {v : V} {x : Value}, VRep W h v x → VRep W' h' v x
  | .none, _, r => by simpa only [VRep] using r
  | .bool _, _, r => by simpa only [VRep] using r
  | .int _, _, r => by simpa only [VRep] using r
  | .str _, _, r => by simpa only [VRep] using r
  | .list xs, x, r => by
    simp only [VRep] at r ⊢
    obtain ⟨hle, a, items, rfl, ha, hl, hr⟩ := r
    obtain ⟨n, ho⟩ := hl
    exact ⟨hle, a, items, rfl, fun hm => (hW a hm).elim ha (fun e => by rw [e] at ho; cases ho), ⟨n, hk a _ ha ho ⟨_, _, rfl⟩⟩, VReps.mono hW hk hr⟩
  | .tup xs, x, r => by
    simp only [VRep] at r ⊢
    obtain ⟨a, items, rfl, ha, hl, hr⟩ := r
    obtain ⟨o, ho, hc, hd⟩ := hl
    exact ⟨a, items, rfl, fun hm => (hW a hm).elim ha (fun e => by rw [e] at ho; cases ho), ⟨o, hk a o ha ho (let ⟨n, e⟩ := hd; ⟨_, n, e⟩), hc, hd⟩, VReps.mono hW hk hr⟩
theorem VReps.mono {W W' : List Addr} {h h' : Heap} (hW : ∀ a ∈ W', a ∈ W ∨ h.get? a = none) (hk : ∀ b o, b ∉ W → h.get? b = some o → isSeqObj o → h'.get? b = some o) :
    ∀ {vs : List V} {xs : List Value}, VReps W h vs xs → VReps W' h' vs xs
  | [], _, r => by simpa only [VReps] using r
  | v :: vs, _, r => by
    simp only [VReps] at r ⊢
    obtain ⟨x, l, rfl, a, b⟩ := r
    exact ⟨x, l, rfl, VRep.mono hW hk a, VReps.mono hW hk b⟩
end
theorem VRep.keeps {W : List Addr} {h h' : Heap} (hk : KeepsH h h') {v : V} {x : Value} (r : VRep W h v x) : VRep W h' v x := r.mono (fun _ m => .inl m) fun b o _ e _ => hk b o e
theorem VReps.keeps {W : List Addr} {h h' : Heap} (hk : KeepsH h h') {v : List V} {x : List Value} (r : VReps W h v x) : VReps W h' v x := r.mono (fun _ m => .inl m) fun b o _ e _ => hk b o e

theorem VReps.length {W h} : ∀ {vs : List V} {xs : List Value}, VReps W h vs xs → xs.length = vs.length
  | [], _, r => by simp only [VReps] at r; subst r; rfl
  | _ :: vs, _, r => by
    simp only [VReps] at r
    obtain ⟨x, l, rfl, _, b⟩ := r
    simp [VReps.length b]
theorem VReps.get {W h} : ∀ {vs : List V} {xs : List Value} {i : Nat} {v : V}, VReps W h vs xs → vs[i]? = some v → ∃ x, xs[i]? = some x ∧ VRep W h v x
  | [], _, _, _, _, e => by simp at e
  | u :: vs, _, 0, v, r, e => by
    simp only [VReps] at r
    obtain ⟨x, l, rfl, a, b⟩ := r
    simp at e; subst e
    exact ⟨x, rfl, a⟩
  | _ :: vs, _, i + 1, v, r, e => by
    simp only [VReps] at r
    obtain ⟨x, l, rfl, a, b⟩ := r
    simp at e
    simpa using VReps.get b e
theorem VReps.append {W h} : ∀ {vs us : List V} {xs ys : List Value}, VReps W h vs xs → VReps W h us ys → VReps W h (vs ++ us) (xs ++ ys)
  | [], _, _, _, r, q => by simp only [VReps] at r; subst r; exact q
  | v :: vs, us, _, ys, r, q => by
    simp only [VReps] at r
    obtain ⟨x, l, rfl, a, b⟩ := r
    show VReps W h (v :: (vs ++ us)) (x :: (l ++ ys))
    simp only [VReps]
    exact ⟨x, _, rfl, a, VReps.append b q⟩
theorem VReps.nil {W h} : VReps W h [] [] := by simp only [VReps]
theorem VReps.cons {W h v x vs xs} (a : VRep W h v x) (b : VReps W h vs xs) : VReps W h (v :: vs) (x :: xs) := by simp only [VReps]; exact ⟨x, xs, rfl, a, b⟩
theorem VReps.one {W h v x} (a : VRep W h v x) : VReps W h [v] [x] := .cons a .nil
theorem VReps.uncons {W h v vs xs} (r : VReps W h (v :: vs) xs) : ∃ x r, xs = x :: r ∧ VRep W h v x ∧ VReps W h vs r := by simpa only [VReps] using r
theorem VReps.unnil {W h xs} (r : VReps W h [] xs) : xs = [] := by simpa only [VReps] using r
theorem VReps.set {W h} {u : V} {y : Value} (q : VRep W h u y) : ∀ {vs : List V} {xs : List Value} (n : Nat), VReps W h vs xs → VReps W h (vs.set n u) (xs.set n y)
  | [], _, n, r => by have := r.unnil; subst this; simpa using VReps.nil
  | v :: vs, _, 0, r => by
    obtain ⟨x, l, rfl, a, b⟩ := r.uncons
    exact .cons q b
  | v :: vs, _, n + 1, r => by
    obtain ⟨x, l, rfl, a, b⟩ := r.uncons
    exact .cons a (VReps.set q n b)

theorem VRep.int {W h i t} : VRep W h (.int i) (.int i t) := by simp only [VRep]; exact ⟨t, rfl⟩
theorem VRep.str {W h i t} (hl : i.length ≤ 2 ^ 20) : VRep W h (.str i) (.str i t) := by simp only [VRep]; exact ⟨hl, t, rfl⟩
theorem VRep.bool {W h i} : VRep W h (.bool i) (.bool i) := by simp only [VRep]
theorem VRep.none {W h} : VRep W h .none .none := by simp only [VRep]
theorem VRep.toInt {W h i x} (r : VRep W h (.int i) x) : ∃ t, x = .int i t := by simpa only [VRep] using r
theorem VRep.toStr {W h i x} (r : VRep W h (.str i) x) : i.length ≤ 2 ^ 20 ∧ ∃ t, x = .str i t := by simpa only [VRep] using r
theorem VRep.toBool {W h i x} (r : VRep W h (.bool i) x) : x = .bool i := by simpa only [VRep] using r
theorem VRep.toNone {W h x} (r : VRep W h .none x) : x = .none := by simpa only [VRep] using r
theorem VRep.toList {W h xs x} (r : VRep W h (.list xs) x) : xs.length ≤ 2 ^ 20 ∧ ∃ a items, x = .ref a ∧ a ∉ W ∧ h.PlainList a items ∧ VReps W h xs items.toList := by simpa only [VRep] using r
theorem VRep.toTup {W h xs x} (r : VRep W h (.tup xs) x) : ∃ a items, x = .ref a ∧ a ∉ W ∧ h.IsTuple a items ∧ VReps W h xs items.toList := by simpa only [VRep] using r
theorem VRep.list {W h xs a items} (hle : xs.length ≤ 2 ^ 20) (hW : a ∉ W) (hl : h.PlainList a items) (r : VReps W h xs items.toList) : VRep W h (.list xs) (.ref a) := by simp only [VRep]; exact ⟨hle, a, items, rfl, hW, hl, r⟩
theorem VRep.tup {W h xs a items} (hW : a ∉ W) (hl : h.IsTuple a items) (r : VReps W h xs items.toList) : VRep W h (.tup xs) (.ref a) := by simp only [VRep]; exact ⟨a, items, rfl, hW, hl, r⟩

/-- the sequences a value stands on -/
noncomputable def OkL (W : List Addr) (h : Heap) (L : List (Addr × Obj)) : Prop := ∀ q ∈ L, h.get? q.1 = some q.2 ∧ isSeqObj q.2 ∧ q.1 ∉ W
theorem OkL.app {W h L L'} (a : OkL W h L) (b : OkL W h L') : OkL W h (L ++ L') := fun q hq => (List.mem_append.mp hq).elim (a q) (b q)
theorem OkL.left {W h L L'} (a : OkL W h (L ++ L')) : OkL W h L := fun q hq => a q (List.mem_append_left _ hq)
theorem OkL.right {W h L L'} (a : OkL W h (L ++ L')) : OkL W h L' := fun q hq => a q (List.mem_append_right _ hq)
mutual
theorem VRep.supp {W : List Addr} {h : Heap} : ∀ {v : V} {x : Value}, VRep W h v x → ∃ L, OkL W h L ∧ ∀ h' W', OkL W' h' L → VRep W' h' v x
  | .none, _, r => ⟨[], fun _ m => (by cases m), fun _ _ _ => by simpa only [VRep] using r⟩
  | .bool _, _, r => ⟨[], fun _ m => (by cases m), fun _ _ _ => by simpa only [VRep] using r⟩
  | .int _, _, r => ⟨[], fun _ m => (by cases m), fun _ _ _ => by simpa only [VRep] using r⟩
  | .str _, _, r => ⟨[], fun _ m => (by cases m), fun _ _ _ => by simpa only [VRep] using r⟩
  | .list xs, x, r => by
    obtain ⟨hle, a, items, rfl, ha, ⟨n, ho⟩, hr⟩ := r.toList
    obtain ⟨L, h1, h2⟩ := VReps.supp hr
    refine ⟨[(a, _)] ++ L, OkL.app (fun q hq => by rw [List.mem_singleton.mp hq]; exact ⟨ho, ⟨_, _, rfl⟩, ha⟩) h1, fun h' W' k => ?_⟩
    simp only [VRep]
    obtain ⟨e1, _, e3⟩ := k (a, _) (List.mem_append_left _ (List.mem_singleton.mpr rfl))
    exact ⟨hle, a, items, rfl, e3, ⟨n, e1⟩, h2 h' W' k.right⟩
  | .tup xs, x, r => by
    obtain ⟨a, items, rfl, ha, ⟨o, ho, hc, hd⟩, hr⟩ := r.toTup
    obtain ⟨L, h1, h2⟩ := VReps.supp hr
    refine ⟨[(a, o)] ++ L, OkL.app (fun q hq => by rw [List.mem_singleton.mp hq]; exact ⟨ho, (let ⟨n, e⟩ := hd; ⟨_, n, e⟩), ha⟩) h1, fun h' W' k => ?_⟩
    simp only [VRep]
    obtain ⟨e1, _, e3⟩ := k (a, o) (List.mem_append_left _ (List.mem_singleton.mpr rfl))
    exact ⟨a, items, rfl, e3, ⟨o, e1, hc, hd⟩, h2 h' W' k.right⟩
theorem VReps.supp {W : List Addr} {h : Heap} : ∀ {vs : List V} {xs : List Value}, VReps W h vs xs → ∃ L, OkL W h L ∧ ∀ h' W', OkL W' h' L → VReps W' h' vs xs
  | [], _, r => ⟨[], fun _ m => (by cases m), fun _ _ _ => by have := r.unnil; subst this; exact .nil⟩
  | v :: vs, _, r => by
    obtain ⟨x, l, rfl, a, b⟩ := r.uncons
    obtain ⟨L, h1, h2⟩ := VRep.supp a
    obtain ⟨L', h3, h4⟩ := VReps.supp b
    exact ⟨L ++ L', h1.app h3, fun h' W' k => .cons (h2 h' W' k.left) (h4 h' W' k.right)⟩
end

/-- how a name of a frame stands -/
noncomputable def NameIs (h : Heap) (env : Env) (x : Str) (val : Value) : Prop :=
  (env.kindOf x = some .local ∧ ∃ m, h.Ns env.locals m ∧ m x = some val) ∨ (env.kindOf x = some .cell ∧ ∃ c, env.cells.lookup x = some c ∧ h.IsCell c (some val))

noncomputable abbrev Vars := List (Str × V)
structure ERep (W : List Addr) (h : Heap) (env : Env) (kd : List (Str × NameKind)) (vars : Vars) : Prop where
  fn : env.scope.kind = .function
  gl : env.globals = mainGlobals
  bl : env.builtins = builtinsNs
  kd : env.scope.names = kd
  vars : ∀ x v, vars.lookup x = some v → ∃ val, NameIs h env x val ∧ VRep W h v val

theorem NameIs.keeps {h h' : Heap} {env : Env} {x : Str} {val : Value} (hk : KeepsH h h') (n : NameIs h env x val) : NameIs h' env x val := by
  rcases n with ⟨a, m, b, c⟩ | ⟨a, c, b, d⟩
  · exact .inl ⟨a, m, b.keeps hk, c⟩
  · exact .inr ⟨a, c, b, let ⟨o, e, d⟩ := d; ⟨o, hk _ _ e, d⟩⟩
theorem ERep.keeps {W h h' env kd vars} (hk : KeepsH h h') (R : ERep W h env kd vars) : ERep W h' env kd vars :=
  ⟨R.fn, R.gl, R.bl, R.kd, fun x v e => let ⟨val, n, r⟩ := R.vars x v e; ⟨val, n.keeps hk, r.keeps hk⟩⟩

noncomputable def GF (K : Frag) (p : Program) (loose : List Str) (mg mb : Str → Option Value) (h : Heap) : Prop := K.In h ∧ TopRead p loose mg mb h
theorem GF.keeps {K p loose mg mb h h'} (hk : KeepsH h h') (g : GF K p loose mg mb h) : GF K p loose mg mb h' :=
  ⟨g.1.keeps hk, ⟨g.2.g.keeps hk, g.2.b.keeps hk, (let ⟨mc, a, b⟩ := g.2.nolimit; ⟨mc, a.keeps hk, b⟩), g.2.builtins, g.2.free⟩⟩

structure Room (lvl : Nat) (A : Around) : Prop where
  hh : A.handled = none
  depth : A.depth + lvl + 20 < recursionLimit
  units : A.units + 3 * lvl + 100 < cLine

theorem Room.le {l l' : Nat} {A : Around} (h : l' ≤ l) (r : Room l A) : Room l' A := ⟨r.hh, by have := r.depth; (first | lia | omega), by have := r.units; (first | lia | omega)⟩
theorem Room.deeper {l : Nat} {A : Around} {env : Env} (r : Room (l + 1) A) : Room l (A.deeper env) :=
  ⟨r.hh, by have := r.depth; show A.depth + 1 + l + 20 < _; (first | lia | omega), by have := r.units; show A.units + 3 + 3 * l + 100 < _; (first | lia | omega)⟩
theorem Room.dep {l : Nat} {A : Around} (r : Room l A) : A.depth < recursionLimit := by have := r.depth; (first | lia | omega)
theorem Room.un {l : Nat} {A : Around} (r : Room l A) : A.units < cLine := by have := r.units; (first | lia | omega)
end Mine
namespace Mine

theorem PlainList.isList {h : Heap} {a : Addr} {items : Array Value} (p : h.PlainList a items) : h.IsList a items := let ⟨n, e⟩ := p; ⟨_, e, rfl, n, rfl⟩

/-- t ends in a value that stands for v; all that stood still stands -/
noncomputable def Gv (prog : Program) (w : World) (A : Around) (W : List Addr) (s : Shared) (t : Sem Value) (v : V) : Prop :=
  wpAny (model prog w) A t (fun x s' => ∃ h' tk', s' = { s with heap := h', toks := tk' } ∧ KeepsH s.heap h' ∧ VRep W h' v x) (fun _ _ => False) s
noncomputable def GvB (prog : Program) (w : World) (A : Around) (s : Shared) (t : Sem Bool) (b : Bool) : Prop :=
  wpAny (model prog w) A t (fun x s' => x = b ∧ ∃ h' tk', s' = { s with heap := h', toks := tk' } ∧ KeepsH s.heap h') (fun _ _ => False) s
noncomputable def GvL (prog : Program) (w : World) (A : Around) (W : List Addr) (s : Shared) (t : Sem (List Value)) (vs : List V) : Prop :=
  wpAny (model prog w) A t (fun x s' => ∃ h' tk', s' = { s with heap := h', toks := tk' } ∧ KeepsH s.heap h' ∧ VReps W h' vs x) (fun _ _ => False) s

section
variable {prog : Program} {w : World} {A : Around} {W : List Addr} {s : Shared} {t : Sem Value} {v : V}
theorem Gv.bindQ {Q : Value → Shared → Prop} {E : Value → Shared → Prop} (g : Gv prog w A W s t v)
    (h : ∀ x h' tk', KeepsH s.heap h' → VRep W h' v x → Q x { s with heap := h', toks := tk' }) : wpAny (model prog w) A t Q E s :=
  wpAny_mono g (fun x s' ⟨h', tk', e, k, r⟩ => by subst e; exact h x h' tk' k r) fun _ _ f => f.elim
theorem GvB.bindQ {t : Sem Bool} {b : Bool} {Q : Bool → Shared → Prop} {E : Value → Shared → Prop} (g : GvB prog w A s t b)
    (h : ∀ h' tk', KeepsH s.heap h' → Q b { s with heap := h', toks := tk' }) : wpAny (model prog w) A t Q E s :=
  wpAny_mono g (fun x s' ⟨e, h', tk', e', k⟩ => by subst e; subst e'; exact h h' tk' k) fun _ _ f => f.elim
theorem GvL.bindQ {t : Sem (List Value)} {vs : List V} {Q : List Value → Shared → Prop} {E : Value → Shared → Prop} (g : GvL prog w A W s t vs)
    (h : ∀ x h' tk', KeepsH s.heap h' → VReps W h' vs x → Q x { s with heap := h', toks := tk' }) : wpAny (model prog w) A t Q E s :=
  wpAny_mono g (fun x s' ⟨h', tk', e, k, r⟩ => by subst e; exact h x h' tk' k r) fun _ _ f => f.elim
/-- the rest, from a grown state -/
theorem Gv.from {h' : Heap} {tk' : Nat} (hk : KeepsH s.heap h') (g : Gv prog w A W { s with heap := h', toks := tk' } t v) :
    wpAny (model prog w) A t (fun x s' => ∃ h' tk', s' = { s with heap := h', toks := tk' } ∧ KeepsH s.heap h' ∧ VRep W h' v x) (fun _ _ => False) { s with heap := h', toks := tk' } :=
  wpAny_mono g (fun _ _ ⟨h2, tk2, e, k, r⟩ => ⟨h2, tk2, e, fun b o x => k b o (hk b o x), r⟩) fun _ _ f => f
theorem GvB.from {t : Sem Bool} {b : Bool} {h' : Heap} {tk' : Nat} (hk : KeepsH s.heap h') (g : GvB prog w A { s with heap := h', toks := tk' } t b) :
    wpAny (model prog w) A t (fun x s' => x = b ∧ ∃ h' tk', s' = { s with heap := h', toks := tk' } ∧ KeepsH s.heap h') (fun _ _ => False) { s with heap := h', toks := tk' } :=
  wpAny_mono g (fun _ _ ⟨e0, h2, tk2, e, k⟩ => ⟨e0, h2, tk2, e, fun b o x => k b o (hk b o x)⟩) fun _ _ f => f
/-- the state an end stands in -/
theorem here {x : Value} {tk' : Nat} (r : VRep W s.heap v x) : ∃ h' tk'', ({ s with toks := tk' } : Shared) = { s with heap := h', toks := tk'' } ∧ KeepsH s.heap h' ∧ VRep W h' v x := ⟨s.heap, tk', rfl, fun _ _ e => e, r⟩
theorem here0 {x : Value} (r : VRep W s.heap v x) : ∃ h' tk'', s = { s with heap := h', toks := tk'' } ∧ KeepsH s.heap h' ∧ VRep W h' v x := ⟨s.heap, s.toks, rfl, fun _ _ e => e, r⟩
theorem push_keeps (o : Obj) : KeepsH s.heap (s.heap.push o) := fun _ _ e => Heap.get?_push_of_some o e
theorem fresh_notin (hW : ∀ a ∈ W, ∃ o, s.heap.get? a = some o) : s.heap.objs.size ∉ W := fun m => by
  obtain ⟨o, e⟩ := hW _ m
  exact Nat.lt_irrefl _ (Heap.lt_size e)
theorem new_list {xs : List V} {vals : List Value} {tk' : Nat} (hle : xs.length ≤ 2 ^ 20) (hW : ∀ a ∈ W, ∃ o, s.heap.get? a = some o) (r : VReps W s.heap xs vals) :
    ∃ h' tk'', ({ s with heap := s.heap.push { cls := .type "list", data := .seq vals.toArray }, toks := tk' } : Shared) = { s with heap := h', toks := tk'' } ∧ KeepsH s.heap h' ∧ VRep W h' (.list xs) (.ref s.heap.objs.size) :=
  ⟨_, tk', rfl, push_keeps _, .list hle (fresh_notin hW) ⟨_, Heap.get?_push_size _ rfl⟩ (by simpa using r.keeps (push_keeps _))⟩
theorem new_tup {xs : List V} {vals : List Value} {tk' : Nat} (hW : ∀ a ∈ W, ∃ o, s.heap.get? a = some o) (r : VReps W s.heap xs vals) :
    ∃ h' tk'', ({ s with heap := s.heap.push { cls := .type "tuple", data := .seq vals.toArray }, toks := tk' } : Shared) = { s with heap := h', toks := tk'' } ∧ KeepsH s.heap h' ∧ VRep W h' (.tup xs) (.ref s.heap.objs.size) :=
  ⟨_, tk', rfl, push_keeps _, .tup (fresh_notin hW) ⟨_, Heap.get?_push_size _ rfl, rfl, _, rfl⟩ (by simpa using r.keeps (push_keeps _))⟩
end

theorem ite_some {α : Type} {c : Prop} [Decidable c] {a b : α} (e : (if c then some a else none) = some b) : c ∧ a = b := by
  split at e
  · rename_i h; exact ⟨h, Option.some.inj e⟩
  · cases e

/-! pure operations -/
noncomputable def mulDec (a b : Int) : Decidable (IntMulOk a b) := inferInstanceAs (Decidable (¬ _ = true))

/-- n times a text -/
noncomputable def repStr (x : Str) (n : Int) : Str := ⟨(List.replicate n.toNat x.cps.toList).flatten.toArray⟩
noncomputable def repList (xs : List V) (n : Int) : List V := (List.replicate n.toNat xs).flatten

theorem ite_some' {α : Type} {c : Prop} {d : Decidable c} {a b : α} (e : @ite _ c d (some a) none = some b) : c ∧ a = b := by
  cases d with
  | isTrue h => exact ⟨h, Option.some.inj e⟩
  | isFalse h => cases e
noncomputable def onInt (v : V) (f : Int → Option V) : Option V := match v with
  | .int i => f i
  | _ => none
noncomputable def onStr (v : V) (f : Str → Option V) : Option V := match v with
  | .str i => f i
  | _ => none
noncomputable def onList (v : V) (f : List V → Option V) : Option V := match v with
  | .list i => f i
  | _ => none
theorem onInt_some {v r : V} {f : Int → Option V} (h : onInt v f = some r) : ∃ i, v = .int i ∧ f i = some r := by
  unfold onInt at h
  split at h
  · exact ⟨_, rfl, h⟩
  · cases h
theorem onStr_some {v r : V} {f : Str → Option V} (h : onStr v f = some r) : ∃ i, v = .str i ∧ f i = some r := by
  unfold onStr at h
  split at h
  · exact ⟨_, rfl, h⟩
  · cases h
theorem onList_some {v r : V} {f : List V → Option V} (h : onList v f = some r) : ∃ i, v = .list i ∧ f i = some r := by
  unfold onList at h
  split at h
  · exact ⟨_, rfl, h⟩
  · cases h
noncomputable def on2 (a b : V) (f : Int → Int → Option V) : Option V := onInt a fun i => onInt b fun j => f i j
theorem on2_some {a b r : V} {f : Int → Int → Option V} (h : on2 a b f = some r) : ∃ i j, a = .int i ∧ b = .int j ∧ f i j = some r := by
  obtain ⟨i, e, h⟩ := onInt_some h
  obtain ⟨j, e', h⟩ := onInt_some h
  exact ⟨i, j, e, e', h⟩
noncomputable def addV (a b : V) : Option V := match a with
  | .int i => onInt b fun j => some (.int (i + j))
  | .str x => onStr b fun y => if x.length + y.length ≤ 2 ^ 20 then some (.str (x ++ y)) else none
  | .list xs => onList b fun ys => if xs.length + ys.length ≤ 2 ^ 20 then some (.list (xs ++ ys)) else none
  | _ => none
noncomputable def mulV (a b : V) : Option V := match a with
  | .int i => onInt b fun j => @ite _ (IntMulOk i j) (mulDec i j) (some (.int (i * j))) none
  | .str x => onInt b fun n => if x.length ≤ 2 ^ 10 ∧ -1000 ≤ n ∧ n ≤ 1000 then some (.str (repStr x n)) else none
  | .list xs => onInt b fun n => if xs.length = 1 ∧ 0 ≤ n ∧ n ≤ 1000 then some (.list (repList xs n)) else none
  | _ => none
noncomputable def binV : Operator → V → V → Option V
  | .Add, a, b => addV a b
  | .Sub, a, b => on2 a b fun a b => some (.int (a - b))
  | .Mult, a, b => mulV a b
  | .FloorDiv, a, b => on2 a b fun a b => if b ≠ 0 ∧ b.natAbs < 1073741824 then some (.int (a.fdiv b)) else none
  | .Mod, a, b => on2 a b fun a b => if b ≠ 0 then some (.int (a.fmod b)) else none
  | .Pow, a, b => on2 a b fun a n => if 0 ≤ n ∧ (Builtin.Int.intBits a : Int) * n ≤ 2 ^ 27 then some (.int (a ^ n.toNat)) else none
  | .BitAnd, a, b => on2 a b fun a b => some (.int (Builtin.bitAnd a b))
  | .BitOr, a, b => on2 a b fun a b => some (.int (Builtin.bitOr a b))
  | .BitXor, a, b => on2 a b fun a b => some (.int (Builtin.bitXor a b))
  | .RShift, a, b => on2 a b fun a n => if 0 ≤ n then some (.int (a.fdiv (2 ^ n.toNat))) else none
  | _, _, _ => none

noncomputable def truthV : V → Option Bool
  | .none => some false
  | .bool b => some b
  | .int i => some (i != 0)
  | .str s => some (s.length != 0)
  | _ => none

noncomputable def unV : UnaryOp → V → Option V
  | .Invert, .int a => some (.int (Builtin.bitNot a))
  | .USub, .int a => some (.int (-a))
  | .Not, v => (truthV v).map fun b => .bool (!b)
  | _, _ => none

theorem strLen_size (x : Str) : x.length = x.cps.size := rfl
theorem foldl_app : ∀ (l : List (Array Nat)) (a : Array Nat), l.foldl (· ++ ·) a = a ++ (l.map (·.toList)).flatten.toArray
  | [], a => by simp
  | b :: l, a => by
    rw [List.foldl_cons, foldl_app l (a ++ b)]
    apply Array.ext'
    simp
theorem rep_eq (x : Str) (n : Nat) : (⟨(List.replicate n x.cps).foldl (· ++ ·) #[]⟩ : Str) = ⟨(List.replicate n x.cps.toList).flatten.toArray⟩ := by
  rw [foldl_app]
  simp
theorem rep_len (x : Str) (n : Int) : (repStr x n).length = n.toNat * x.length := by
  unfold repStr
  simp [Str.length]
theorem repStr_one (x : Str) : repStr x 1 = x := by
  cases x
  simp [repStr]
theorem repStr_low (x : Str) {n : Int} (h : n < 1) : repStr x n = Str.empty := by
  have : n.toNat = 0 := by (first | lia | omega)
  simp [repStr, this, Str.empty]
theorem repStr_empty (x : Str) (n : Int) (h : x.length = 0) : repStr x n = x := by
  have e : x.cps = #[] := Array.eq_empty_of_size_eq_zero h
  cases x with | mk c => ?_
  simp only at e
  subst e
  simp [repStr]
section
variable {prog : Program} {w : World} {A : Around} {W : List Addr} {s : Shared}
set_option maxHeartbeats 1000000 in
theorem binV_sound (hW : ∀ a ∈ W, ∃ o, s.heap.get? a = some o) {op : Operator} {a b r : V} {x y : Value} (e : binV op a b = some r) (ra : VRep W s.heap a x) (rb : VRep W s.heap b y) :
    Gv prog w A W s (binaryOp op x y) r := by
  unfold Gv
  cases op with
  | Add =>
    change addV a b = some r at e
    unfold addV at e
    split at e
    · obtain ⟨_, rfl, e⟩ := onInt_some e
      cases e
      obtain ⟨t, rfl⟩ := ra.toInt; obtain ⟨u, rfl⟩ := rb.toInt
      exact PyProof.Rows.add_int (here .int)
    · obtain ⟨_, rfl, e⟩ := onStr_some e
      obtain ⟨hle, rfl⟩ := ite_some e
      obtain ⟨_, t, rfl⟩ := ra.toStr; obtain ⟨_, u, rfl⟩ := rb.toStr
      refine PyProof.Rows.add_str (fun t' tk => here (.str ?_)) ?_
      · rw [strLen_append]; exact hle
      · rw [sizeLine_eq]; (first | lia | omega)
    · obtain ⟨_, rfl, e⟩ := onList_some e
      obtain ⟨hle, rfl⟩ := ite_some e
      obtain ⟨_, la, ia, rfl, _, ⟨na, pa⟩, r1⟩ := ra.toList
      obtain ⟨_, lb, ib, rfl, _, ⟨nb, pb⟩, r2⟩ := rb.toList
      have h1 := r1.length
      have h2 := r2.length
      rw [Array.length_toList] at h1 h2
      refine PySem.P.add_list (l := la) (b := lb) pa pb ?_ (by rw [sizeLine_eq, h1, h2]; (first | lia | omega))
      have := new_list (tk' := s.toks) (by rw [List.length_append]; exact hle) hW (r1.append r2)
      rw [show (ia ++ ib) = (ia.toList ++ ib.toList).toArray by simp]
      exact this
    · cases e
  | Sub =>
    obtain ⟨_, _, rfl, rfl, e⟩ := on2_some e
    cases e
    obtain ⟨t, rfl⟩ := ra.toInt; obtain ⟨u, rfl⟩ := rb.toInt
    exact PyProof.Rows.sub_int (here .int)
  | Mult =>
    change mulV a b = some r at e
    unfold mulV at e
    split at e
    · obtain ⟨_, rfl, e⟩ := onInt_some e
      obtain ⟨hle, rfl⟩ := ite_some' e
      obtain ⟨t, rfl⟩ := ra.toInt; obtain ⟨u, rfl⟩ := rb.toInt
      exact PyProof.Rows.mul_int (here .int) hle
    · rename_i x
      obtain ⟨n, rfl, e⟩ := onInt_some e
      obtain ⟨hle, rfl⟩ := ite_some e
      obtain ⟨_, t, rfl⟩ := ra.toStr; obtain ⟨u, rfl⟩ := rb.toInt
      obtain ⟨h1, h2, h3⟩ := hle
      have hlen : (repStr x n).length ≤ 2 ^ 20 := by
        rw [rep_len]
        have : n.toNat ≤ 1000 := by (first | lia | omega)
        calc n.toNat * x.length ≤ 1000 * 2 ^ 10 := Nat.mul_le_mul this h1
          _ ≤ 2 ^ 20 := by decide
      refine PySem.P.mul_str ?_ ?_ ?_ ?_
      · simp; (first | lia | omega)
      · intro h4 h5 h6
        have : (2 ^ 63 - 1) / n ≥ (2 ^ 63 - 1) / 1000 := by
          have hn : 0 < n := by (first | lia | omega)
          exact Int.le_ediv_of_mul_le hn (by
            have : ((2 : Int) ^ 63 - 1) / 1000 * n ≤ (2 ^ 63 - 1) / 1000 * 1000 := Int.mul_le_mul_of_nonneg_left h3 (by decide)
            refine Int.le_trans this (by decide))
        have h7 : ((2 : Int) ^ 63 - 1) / 1000 > 2 ^ 20 := by decide
        have h8 : (x.length : Int) ≤ 2 ^ 10 := by exact_mod_cast h1
        (first | lia | omega)
      · intro h4 h5
        have h9 : x.length * n.toNat ≤ 2 ^ 20 := by rw [Nat.mul_comm, ← rep_len]; exact hlen
        unfold Builtin.Str.tooLong
        rw [decide_eq_false_iff_not, sizeLine_eq]
        (first | lia | omega)
      · by_cases h4 : n < 1
        · rw [if_pos h4]
          rw [repStr_low x h4]
          exact ⟨by decide, here (.str (by decide))⟩
        · rw [if_neg h4]
          split
          · rename_i h5
            simp only [Bool.or_eq_true, beq_iff_eq] at h5
            have : repStr x n = x := by
              rcases h5 with h5 | h5
              · rw [h5]; exact repStr_one x
              · exact repStr_empty x n h5
            rw [this]
            exact here0 (.str (by (first | lia | omega)))
          · have : (⟨(List.replicate n.toNat x.cps).foldl (fun x1 x2 => x1 ++ x2) #[]⟩ : Str) = repStr x n := rep_eq x _
            rw [this]
            exact ⟨by rw [sizeLine_eq]; (first | lia | omega), here (.str hlen)⟩
    · rename_i xs
      obtain ⟨n, rfl, e⟩ := onInt_some e
      obtain ⟨hle, rfl⟩ := ite_some e
      obtain ⟨_, la, ia, rfl, _, ⟨na, pa⟩, r1⟩ := ra.toList
      obtain ⟨u, rfl⟩ := rb.toInt
      obtain ⟨h1, h2, h3⟩ := hle
      have hl := r1.length
      rw [Array.length_toList] at hl
      refine wpAny_binaryOp_repeat_ref (T := "list") (U := "int") (by decide) ⟨_, pa, rfl⟩ (fun s' => typeIs_int s' n u) noFill_list_mul F.fills_int_mul F.slot_int_rmul repeat_list F.slot_int_index.lookup
        (call_meets F.slot_int_rmul (typeIs_int s n u) F.entry_int_rmul (F.args_int_rmul_2 _ _) (int___rmul___int_list n u la ia na)
          ⟨pa, rfl, ⟨_, pa, rfl⟩, call_meets F.slot_list_mul ⟨_, pa, rfl⟩ F.entry_list_mul (F.args_list_mul_2 _ _)
            (AutoListH.list___mul___list_int_3 la ia na n u (by simp [Builtin.List.listFitsIndex]; (first | lia | omega)) (by rw [hl, h1]; (first | lia | omega)) (by rw [hl, h1]; simp [Builtin.List.listTooLong, sizeLine]; (first | lia | omega)))
            ⟨pa, ?_⟩⟩)
      rw [PyProof.Rows.listMul_foldl_if]
      have hrep : ∀ k : Nat, VReps W s.heap (List.replicate k xs).flatten (List.replicate k ia.toList).flatten := fun k => by
        induction k with
        | zero => exact .nil
        | succ k ih => rw [List.replicate_succ, List.replicate_succ, List.flatten_cons, List.flatten_cons]; exact r1.append ih
      exact new_list (tk' := s.toks) (by simp [repList, h1]; (first | lia | omega)) hW (hrep n.toNat)
    · cases e
  | FloorDiv =>
    obtain ⟨_, _, rfl, rfl, e⟩ := on2_some e
    obtain ⟨hle, rfl⟩ := ite_some e
    obtain ⟨t, rfl⟩ := ra.toInt; obtain ⟨u, rfl⟩ := rb.toInt
    exact PyProof.Rows.floordiv_int hle.1 (here .int) (.inl (PyProof.noPylong_small hle.2))
  | Mod =>
    obtain ⟨_, _, rfl, rfl, e⟩ := on2_some e
    obtain ⟨hle, rfl⟩ := ite_some e
    obtain ⟨t, rfl⟩ := ra.toInt; obtain ⟨u, rfl⟩ := rb.toInt
    exact PyProof.Rows.mod_int hle (here .int)
  | Pow =>
    obtain ⟨_, _, rfl, rfl, e⟩ := on2_some e
    obtain ⟨hle, rfl⟩ := ite_some e
    obtain ⟨t, rfl⟩ := ra.toInt; obtain ⟨u, rfl⟩ := rb.toInt
    exact PyProof.Rows.pow_int hle.1 hle.2 (here .int)
  | BitAnd =>
    obtain ⟨_, _, rfl, rfl, e⟩ := on2_some e
    cases e
    obtain ⟨t, rfl⟩ := ra.toInt; obtain ⟨u, rfl⟩ := rb.toInt
    exact PyProof.Rows.and_int (here .int)
  | BitOr =>
    obtain ⟨_, _, rfl, rfl, e⟩ := on2_some e
    cases e
    obtain ⟨t, rfl⟩ := ra.toInt; obtain ⟨u, rfl⟩ := rb.toInt
    exact PyProof.Rows.or_int (here .int)
  | BitXor =>
    obtain ⟨_, _, rfl, rfl, e⟩ := on2_some e
    cases e
    obtain ⟨t, rfl⟩ := ra.toInt; obtain ⟨u, rfl⟩ := rb.toInt
    exact PyProof.Rows.xor_int (here .int)
  | RShift =>
    obtain ⟨_, _, rfl, rfl, e⟩ := on2_some e
    obtain ⟨hle, rfl⟩ := ite_some e
    obtain ⟨t, rfl⟩ := ra.toInt; obtain ⟨u, rfl⟩ := rb.toInt
    exact PyProof.Rows.rshift_int hle (here .int)
  | _ => cases e

theorem truthV_sound {v : V} {x : Value} {b : Bool} (e : truthV v = some b) (r : VRep W s.heap v x) : GvB prog w A s (truthy x) b := by
  unfold truthV at e
  unfold GvB
  split at e
  · cases e
    have := r.toNone; subst this
    exact fun _ _ _ => ⟨rfl, s.heap, s.toks, rfl, fun _ _ e => e⟩
  · cases e
    have := r.toBool; subst this
    exact wpAny_truthy_bool ⟨rfl, s.heap, s.toks, rfl, fun _ _ e => e⟩
  · cases e
    obtain ⟨t, rfl⟩ := r.toInt
    exact truthy_int ⟨rfl, s.heap, s.toks, rfl, fun _ _ e => e⟩
  · cases e
    obtain ⟨hl, t, rfl⟩ := r.toStr
    refine PySem.P.truthy_str (by (first | lia | omega)) ⟨?_, s.heap, _, rfl, fun _ _ e => e⟩
    rw [Bool.eq_iff_iff]; simp
  · cases e

theorem unV_sound {op : UnaryOp} {a r : V} {x : Value} (e : unV op a = some r) (ra : VRep W s.heap a x) : Gv prog w A W s (unaryOp op x) r := by
  unfold unV at e
  unfold Gv
  split at e
  · cases e
    obtain ⟨t, rfl⟩ := ra.toInt
    exact PyProof.Rows.invert_int (here .int)
  · cases e
    obtain ⟨t, rfl⟩ := ra.toInt
    exact PyProof.Rows.neg_int (here .int)
  · rw [Option.map_eq_some_iff] at e
    obtain ⟨b, e1, rfl⟩ := e
    exact not_value ((truthV_sound e1 ra).bindQ fun h' tk' k => ⟨h', tk', rfl, k, .bool⟩)
  · cases e
end
end Mine
namespace Mine
open PySem.SeqAt

noncomputable def eqOk : Nat → V → Bool
  | 0, .list _ => false
  | 0, .tup _ => false
  | n + 1, .list xs => xs.all (eqOk n)
  | n + 1, .tup xs => xs.all (eqOk n)
  | _, _ => true

open Classical in
noncomputable def eqV (a b : V) : Option Unit := if a = b ∧ eqOk 5 a = true then some () else none

theorem eqV_some {a b : V} {u : Unit} (e : eqV a b = some u) : a = b ∧ eqOk 5 a = true := by
  unfold eqV at e
  split at e
  · assumption
  · cases e

noncomputable def eqE (a b : V) : Option V := match a with
  | .int a => onInt b fun b => some (.bool (a == b))
  | .str a => onStr b fun b => some (.bool (a == b))
  | .list xs => (eqV (.list xs) b).map fun _ => .bool true
  | _ => none
noncomputable def eqN (a b : V) : Option V := match a with
  | .int a => onInt b fun b => some (.bool (a != b))
  | .str a => onStr b fun b => some (.bool (a != b))
  | .list xs => (eqV (.list xs) b).map fun _ => .bool false
  | _ => none
noncomputable def cmpV : CmpOp → V → V → Option V
  | .Eq, a, b => eqE a b
  | .NotEq, a, b => eqN a b
  | .Lt, a, b => on2 a b fun a b => some (.bool (decide (a < b)))
  | .LtE, a, b => on2 a b fun a b => some (.bool (decide (a ≤ b)))
  | .Gt, a, b => on2 a b fun a b => some (.bool (decide (b < a)))
  | .GtE, a, b => on2 a b fun a b => some (.bool (decide (b ≤ a)))
  | .In, a, b => onStr a fun a => onStr b fun b => some (.bool !(Builtin.Str.occurrences b a 0 b.length 1).isEmpty)
  | .NotIn, a, b => onStr a fun a => onStr b fun b => some (.bool (!(!(Builtin.Str.occurrences b a 0 b.length 1).isEmpty)))
  | .IsNot, a, b => match a with
    | .bool a => match b with
      | .bool b => some (.bool (a != b))
      | _ => none
    | _ => none
  | _, _, _ => none

theorem all_true (n : Nat) : ((List.range n).all fun _ => true) = true := by rw [List.all_eq_true]; intros; rfl
theorem VReps.two {W h} {vs : List V} {xs ys : List Value} (r : VReps W h vs xs) (q : VReps W h vs ys) (j : Nat) (h1 : j < xs.length) (h2 : j < ys.length) :
    ∃ v, v ∈ vs ∧ VRep W h v xs[j] ∧ VRep W h v ys[j] := by
  have hj : j < vs.length := by rw [← r.length]; exact h1
  have e : vs[j]? = some vs[j] := List.getElem?_eq_getElem hj
  obtain ⟨x, ex, rx⟩ := r.get e
  obtain ⟨y, ey, ry⟩ := q.get e
  refine ⟨vs[j], List.getElem_mem hj, ?_, ?_⟩
  · rw [List.getElem?_eq_getElem h1] at ex; cases ex; exact rx
  · rw [List.getElem?_eq_getElem h2] at ey; cases ey; exact ry

theorem eqAt_of {W : List Addr} : ∀ (n : Nat) (A : Around) (s : Shared) (v : V) (x y : Value), eqOk n v = true → VRep W s.heap v x → VRep W s.heap v y → A.units + n < cLine → EqAt A s x y true := by
  intro n
  induction n with
  | zero =>
    intro A s v x y hn r q hu
    cases v with
    | none => rw [r.toNone, q.toNone]; exact EqAt.same _
    | bool b => rw [r.toBool, q.toBool]; exact EqAt.same _
    | int i => obtain ⟨t, rfl⟩ := r.toInt; obtain ⟨u, rfl⟩ := q.toInt; simpa using EqAt.int_int (A := A) (s := s) i t i u
    | str i => obtain ⟨_, t, rfl⟩ := r.toStr; obtain ⟨_, u, rfl⟩ := q.toStr; simpa using EqAt.str_str (A := A) (s := s) i t i u
    | list xs => simp [eqOk] at hn
    | tup xs => simp [eqOk] at hn
  | succ n ih =>
    intro A s v x y hn r q hu
    cases v with
    | none => rw [r.toNone, q.toNone]; exact EqAt.same _
    | bool b => rw [r.toBool, q.toBool]; exact EqAt.same _
    | int i => obtain ⟨t, rfl⟩ := r.toInt; obtain ⟨u, rfl⟩ := q.toInt; simpa using EqAt.int_int (A := A) (s := s) i t i u
    | str i => obtain ⟨_, t, rfl⟩ := r.toStr; obtain ⟨_, u, rfl⟩ := q.toStr; simpa using EqAt.str_str (A := A) (s := s) i t i u
    | list xs =>
      simp only [eqOk, List.all_eq_true] at hn
      obtain ⟨_, a, ia, rfl, _, pa, ra⟩ := r.toList
      obtain ⟨_, b, ib, rfl, _, pb, rb⟩ := q.toList
      by_cases hab : a = b
      · subst hab; exact EqAt.same _
      · refine EqAt.of_refs hab ?_
        have hsz : ia.size = ib.size := by rw [← Array.length_toList, ← Array.length_toList, ra.length, rb.length]
        have := RcAt.lists (A := A) (s := s) (e := fun _ => true) (PlainList.isList pa) (PlainList.isList pb) hsz (by (first | lia | omega)) (fun j h1 h2 => by
          obtain ⟨v, hv, r1, r2⟩ := ra.two rb j (by simpa using h1) (by simpa using h2)
          exact ih A.in1 s v _ _ (hn v hv) (by simpa using r1) (by simpa using r2) (by show A.units + 1 + n < _; (first | lia | omega)))
        rwa [all_true] at this
    | tup xs =>
      simp only [eqOk, List.all_eq_true] at hn
      obtain ⟨a, ia, rfl, _, pa, ra⟩ := r.toTup
      obtain ⟨b, ib, rfl, _, pb, rb⟩ := q.toTup
      by_cases hab : a = b
      · subst hab; exact EqAt.same _
      · refine EqAt.of_refs hab ?_
        have hsz : ia.size = ib.size := by rw [← Array.length_toList, ← Array.length_toList, ra.length, rb.length]
        have := RcAt.tuples (A := A) (s := s) (e := fun _ => true) pa pb (by (first | lia | omega)) (fun j h1 h2 => by
          obtain ⟨v, hv, r1, r2⟩ := ra.two rb j (by simpa using h1) (by simpa using h2)
          exact ih A.in1 s v _ _ (hn v hv) (by simpa using r1) (by simpa using r2) (by show A.units + 1 + n < _; (first | lia | omega)))
        rw [hsz, all_true] at this
        simpa using this

section
variable {prog : Program} {w : World} {A : Around} {W : List Addr} {s : Shared}
theorem cmpV_sound (hu : A.units + 100 < cLine) {op : CmpOp} {a b r : V} {x y : Value} (e : cmpV op a b = some r) (ra : VRep W s.heap a x) (rb : VRep W s.heap b y) :
    Gv prog w A W s (compareOp op x y) r := by
  unfold Gv
  cases op with
  | Eq =>
    change eqE a b = some r at e
    unfold eqE at e
    split at e
    · obtain ⟨_, rfl, e⟩ := onInt_some e
      cases e; obtain ⟨t, rfl⟩ := ra.toInt; obtain ⟨u, rfl⟩ := rb.toInt
      exact PyProof.Rows.eq_int (here0 .bool)
    · obtain ⟨_, rfl, e⟩ := onStr_some e
      cases e; obtain ⟨_, t, rfl⟩ := ra.toStr; obtain ⟨_, u, rfl⟩ := rb.toStr
      exact PyProof.Rows.eq_str (here0 .bool)
    · rw [Option.map_eq_some_iff] at e
      obtain ⟨u, e1, rfl⟩ := e
      obtain ⟨e2, e3⟩ := eqV_some e1
      cases e2
      obtain ⟨_, l, il, rfl, _, pa, r1⟩ := ra.toList
      obtain ⟨_, b, ib, rfl, _, pb, r2⟩ := rb.toList
      simp only [eqOk, List.all_eq_true] at e3
      have hsz : il.size = ib.size := by rw [← Array.length_toList, ← Array.length_toList, r1.length, r2.length]
      have := RcAt.lists (A := A) (s := s) (e := fun _ => true) (PlainList.isList pa) (PlainList.isList pb) hsz (by (first | lia | omega)) (fun j h1 h2 => by
        obtain ⟨v, hv, r1, r2⟩ := r1.two r2 j (by simpa using h1) (by simpa using h2)
        exact eqAt_of 4 A.in1 s v _ _ (e3 v hv) (by simpa using r1) (by simpa using r2) (by show A.units + 1 + 4 < _; (first | lia | omega)))
      have key : RcAt A s (.ref l) (.ref b) true := by rwa [all_true] at this
      exact key prog w _ _ (here0 .bool)
    · cases e
  | NotEq =>
    change eqN a b = some r at e
    unfold eqN at e
    split at e
    · obtain ⟨_, rfl, e⟩ := onInt_some e
      cases e; obtain ⟨t, rfl⟩ := ra.toInt; obtain ⟨u, rfl⟩ := rb.toInt
      exact PyProof.Rows.ne_int (here0 .bool)
    · obtain ⟨_, rfl, e⟩ := onStr_some e
      cases e; obtain ⟨_, t, rfl⟩ := ra.toStr; obtain ⟨_, u, rfl⟩ := rb.toStr
      exact PyProof.Rows.ne_str (here0 .bool)
    · rw [Option.map_eq_some_iff] at e
      obtain ⟨u, e1, rfl⟩ := e
      obtain ⟨e2, e3⟩ := eqV_some e1
      cases e2
      obtain ⟨_, l, il, rfl, _, pa, r1⟩ := ra.toList
      obtain ⟨_, b, ib, rfl, _, pb, r2⟩ := rb.toList
      simp only [eqOk, List.all_eq_true] at e3
      have hsz : il.size = ib.size := by rw [← Array.length_toList, ← Array.length_toList, r1.length, r2.length]
      have := RcNeAt.lists (A := A) (s := s) (e := fun _ => true) (PlainList.isList pa) (PlainList.isList pb) hsz (by (first | lia | omega)) (fun j h1 h2 => by
        obtain ⟨v, hv, r1, r2⟩ := r1.two r2 j (by simpa using h1) (by simpa using h2)
        exact eqAt_of 4 A.in1 s v _ _ (e3 v hv) (by simpa using r1) (by simpa using r2) (by show A.units + 1 + 4 < _; (first | lia | omega)))
      have key : RcNeAt A s (.ref l) (.ref b) false := by rw [all_true] at this; exact this
      exact key prog w _ _ (here0 .bool)
    · cases e
  | Lt =>
    obtain ⟨_, _, rfl, rfl, e⟩ := on2_some e
    cases e; obtain ⟨t, rfl⟩ := ra.toInt; obtain ⟨u, rfl⟩ := rb.toInt
    exact PyProof.Rows.lt_int (here0 .bool)
  | LtE =>
    obtain ⟨_, _, rfl, rfl, e⟩ := on2_some e
    cases e; obtain ⟨t, rfl⟩ := ra.toInt; obtain ⟨u, rfl⟩ := rb.toInt
    exact PyProof.Rows.le_int (here0 .bool)
  | Gt =>
    obtain ⟨_, _, rfl, rfl, e⟩ := on2_some e
    cases e; obtain ⟨t, rfl⟩ := ra.toInt; obtain ⟨u, rfl⟩ := rb.toInt
    exact PyProof.Rows.gt_int (here0 .bool)
  | GtE =>
    obtain ⟨_, _, rfl, rfl, e⟩ := on2_some e
    cases e; obtain ⟨t, rfl⟩ := ra.toInt; obtain ⟨u, rfl⟩ := rb.toInt
    exact PyProof.Rows.ge_int (here0 .bool)
  | In =>
    obtain ⟨_, rfl, e⟩ := onStr_some e
    obtain ⟨_, rfl, e⟩ := onStr_some e
    cases e; obtain ⟨_, t, rfl⟩ := ra.toStr; obtain ⟨_, u, rfl⟩ := rb.toStr
    exact PyProof.Rows.in_str (here0 .bool)
  | NotIn =>
    obtain ⟨_, rfl, e⟩ := onStr_some e
    obtain ⟨_, rfl, e⟩ := onStr_some e
    cases e; obtain ⟨_, t, rfl⟩ := ra.toStr; obtain ⟨_, u, rfl⟩ := rb.toStr
    exact PyProof.Rows.notIn_str (here0 .bool)
  | IsNot =>
    cases a with
    | bool a =>
      cases b with
      | bool b =>
        cases e; have := ra.toBool; have := rb.toBool; subst x y
        refine wpAny_isNot_plain rfl ?_
        have e1 : (!(Value.bool a == Value.bool b)) = (a != b) := by cases a <;> cases b <;> rfl
        rw [e1]
        exact here0 VRep.bool
      | _ => cases e
    | _ => cases e
  | _ => cases e
end
end Mine
namespace Mine

noncomputable def optI : V → Option (Option Int)
  | .none => some none
  | .int i => some (some i)
  | _ => none
noncomputable def sliceIdx (lo hi st : Option Int) (n : Nat) : List Nat := sliceRange (sliceBounds lo hi st n).1 (sliceBounds lo hi st n).2.1 (sliceBounds lo hi st n).2.2
noncomputable def pickL {α : Type} (xs : List α) (lo hi st : Option Int) : List α := (sliceIdx lo hi st xs.length).filterMap (xs[·]?)
noncomputable def sliceStr (x : Str) (lo hi : Option Int) : Str :=
  if ((Builtin.Str.strSliceIndices lo hi 1 x.length).length == x.length) = true then x else ⟨((Builtin.Str.strSliceIndices lo hi 1 x.length).filterMap (x.cps[·]?)).toArray⟩
noncomputable def sliceV (v : V) (lo hi st : Option Int) : Option V := match v with
  | .str x => if st = none then some (.str (sliceStr x lo hi)) else none
  | .list xs => if st ≠ some 0 then some (.list (pickL xs lo hi st)) else none
  | _ => none
noncomputable def idxV : V → V → Option V
  | .list xs, .int k => if 0 ≤ k ∧ k < 2 ^ 40 then xs[k.toNat]? else none
  | .tup xs, .int k => if 0 ≤ k ∧ k < 2 ^ 40 then xs[k.toNat]? else none
  | .str x, .int k => if -(2 ^ 40) ≤ k ∧ k < 2 ^ 40 then ((seqIndex? k x.length).bind (x.cps[·]?)).map fun c => .str ⟨#[c]⟩ else none
  | _, _ => none

theorem VReps.pick {W h} {xs : List V} {items : List Value} (r : VReps W h xs items) : ∀ idx : List Nat, VReps W h (idx.filterMap (xs[·]?)) (idx.filterMap (items[·]?))
  | [] => .nil
  | j :: idx => by
    have ih := VReps.pick r idx
    by_cases hj : j < xs.length
    · have e := List.getElem?_eq_getElem hj
      obtain ⟨x, ex, rx⟩ := r.get e
      rw [List.filterMap_cons_some e, List.filterMap_cons_some ex]
      exact .cons rx ih
    · have e1 : xs[j]? = none := List.getElem?_eq_none (by (first | lia | omega))
      have e2 : items[j]? = none := List.getElem?_eq_none (by rw [r.length]; (first | lia | omega))
      rw [List.filterMap_cons_none e1, List.filterMap_cons_none e2]
      exact ih

theorem sliceStr_len (x : Str) (lo hi : Option Int) : (sliceStr x lo hi).length ≤ x.length := by
  unfold sliceStr
  split
  · exact Nat.le_refl _
  · refine Nat.le_trans ?_ (PyProof.Rows.indices_len_le lo hi x.length)
    show ((Builtin.Str.strSliceIndices lo hi 1 x.length).filterMap (x.cps[·]?)).toArray.size ≤ _
    rw [List.size_toArray]
    exact List.length_filterMap_le _ _

section
variable {prog : Program} {w : World} {A : Around} {W : List Addr} {s : Shared} {env : Env}

theorem Subscript_gen {value slice : Expr} {pos : Pos} {Q : Value → Shared → Prop} {E : Value → Shared → Prop}
    (h : wpAny (model prog w) A (eval value env) (fun o s₁ => wpAny (model prog w) A (eval slice env) (fun i s₂ => (∃ T id, typeLookup (.type T) "__getitem__" = pure (some (.builtin id)) ∧ s₂.TypeIs o T) ∧ wpAny (model prog w) A (getItem o i) Q E s₂) E s₁) E s) :
    wpAny (model prog w) A (eval (.Subscript value slice pos) env) Q E s := by
  rw [eval_Subscript]
  refine wpAny_bind (wpAny_mono h (fun o s₁ h₁ => wpAny_bind (wpAny_holding (wpAny_mono h₁ (fun i s₂ h₂ => wpAny_bind (wpAny_standAt ?_)) fun _ _ x => x)))
    fun _ _ x => x)
  obtain ⟨⟨T, id, hl, hT⟩, hg⟩ := h₂
  refine wpAny_bind ?_
  rw [getitemInPython_of_ne hT.not_modules]
  refine wpAny_bind (wpAny_specialOf hT hl ?_)
  have fin : ∀ vs : List Value, wpAny (model prog w) A (operate vs (getItem o i)) (fun r s₃ => wpAny (model prog w) A (letTemporaryGo value o r >>= fun _ => pure r) Q E s₃) E s₂ := fun vs =>
    wpAny_operating (wpAny_mono hg (fun r s₃ h₃ => wpAny_bind (wpAny_letTemporaryGo (wpAny_pure h₃))) fun _ _ x => x)
  have sub : ∃ vs, subscripted slice false o i = operate vs (getItem o i) := by
    cases slice with
    | Slice _ _ st _ => cases st <;> exact ⟨_, rfl⟩
    | _ => exact ⟨_, rfl⟩
  obtain ⟨vs, es⟩ := sub
  first
    | (refine wpAny_pure (wpAny_bind ?_); rw [es]; exact fin vs)
    | (refine wpAny_pure ?_; rw [es]; exact wpAny_bind (fin vs))
    | (refine wpAny_bind (wpAny_pure (wpAny_bind ?_)); rw [es]; exact fin vs)

theorem getItem_type {v : V} {x : Value} (r : VRep W s.heap v x) (hv : (∃ xs, v = .list xs) ∨ (∃ xs, v = .tup xs) ∨ ∃ y, v = .str y) :
    ∃ T id, typeLookup (.type T) "__getitem__" = pure (some (.builtin id)) ∧ s.TypeIs x T := by
  rcases hv with ⟨xs, rfl⟩ | ⟨xs, rfl⟩ | ⟨y, rfl⟩
  · obtain ⟨_, a, ia, rfl, _, pa, ra⟩ := r.toList
    exact ⟨"list", _, slot_list_getitem.lookup, (PlainList.isList pa).typeIs⟩
  · obtain ⟨a, ia, rfl, _, pa, ra⟩ := r.toTup
    exact ⟨"tuple", _, F.slot_tuple_getitem.lookup, pa.typeIs⟩
  · obtain ⟨_, t, rfl⟩ := r.toStr
    exact ⟨"str", _, F.slot_str_getitem.lookup, typeIs_str _ _ _⟩

theorem idxV_kind {v i r : V} (e : idxV v i = some r) : (∃ xs, v = .list xs) ∨ (∃ xs, v = .tup xs) ∨ ∃ y, v = .str y := by
  unfold idxV at e
  split at e
  · exact .inl ⟨_, rfl⟩
  · exact .inr (.inl ⟨_, rfl⟩)
  · exact .inr (.inr ⟨_, rfl⟩)
  · cases e

theorem idxV_sound {v i r : V} {x y : Value} (e : idxV v i = some r) (ra : VRep W s.heap v x) (rb : VRep W s.heap i y) :
    Gv prog w A W s (getItem x y) r := by
  unfold idxV at e
  unfold Gv
  split at e
  · split at e
    · rename_i h1
      obtain ⟨_, a, ia, rfl, _, pa, r1⟩ := ra.toList
      obtain ⟨t, rfl⟩ := rb.toInt
      obtain ⟨z, ez, rz⟩ := r1.get e
      exact wpAny_getItem_list (PlainList.isList pa) h1.1 (by have := h1.2; (first | lia | omega)) (by simpa using ez) (here0 rz)
    · cases e
  · rename_i xs k
    split at e
    · rename_i h1
      obtain ⟨a, ia, rfl, _, pa, r1⟩ := ra.toTup
      obtain ⟨t, rfl⟩ := rb.toInt
      obtain ⟨z, ez, rz⟩ := r1.get e
      have hk : k.toNat < ia.size := by
        rw [← Array.length_toList]; exact (List.getElem?_eq_some_iff.mp ez).1
      exact PyProof.Rows.getItem_tuple (j := k.toNat) (x := z) pa (by have := h1.1; (first | lia | omega)) (by have := h1.2; (first | lia | omega)) (seqIndex_of h1.1 (by have := h1.1; (first | lia | omega))) (by simpa using ez) (here0 rz)
    · cases e
  · rename_i x k
    split at e
    · rename_i h1
      rw [Option.map_eq_some_iff] at e
      obtain ⟨c, ec, rfl⟩ := e
      obtain ⟨_, t, rfl⟩ := ra.toStr
      obtain ⟨u, rfl⟩ := rb.toInt
      exact PyProof.Rows.getItem_str (by simp; (first | lia | omega)) ec (here (.str (by show (1:Nat) ≤ _; decide)))
    · cases e
  · cases e

theorem sliceV_kind {v r : V} {lo hi st} (e : sliceV v lo hi st = some r) : (∃ xs, v = .list xs) ∨ (∃ xs, v = .tup xs) ∨ ∃ y, v = .str y := by
  unfold sliceV at e
  split at e
  · exact .inr (.inr ⟨_, rfl⟩)
  · exact .inl ⟨_, rfl⟩
  · cases e

theorem optI_part {v : V} {k : Option Int} {x : Value} (e : optI v = some k) (r : VRep W s.heap v x) : IsPart x k ∧ ∃ l : Option (Int × Tok), x = partValue l ∧ l.map (·.1) = k := by
  unfold optI at e
  split at e
  · cases e; rw [r.toNone]; exact ⟨.none, none, rfl, rfl⟩
  · cases e; obtain ⟨t, rfl⟩ := r.toInt; exact ⟨.int _ _, some (_, t), rfl, rfl⟩
  · cases e

theorem sliceV_sound (hW : ∀ a ∈ W, ∃ o, s.heap.get? a = some o) {v vl vh vs r : V} {lo hi st : Option Int} {x xl xh xs : Value} {sl : Addr} (e : sliceV v lo hi st = some r) (ra : VRep W s.heap v x)
    (el : optI vl = some lo) (rl : VRep W s.heap vl xl) (eh : optI vh = some hi) (rh : VRep W s.heap vh xh) (es : optI vs = some st) (rs : VRep W s.heap vs xs)
    (ho : s.heap.IsSliceOf sl xl xh xs) : Gv prog w A W s (getItem x (.ref sl)) r := by
  unfold sliceV at e
  unfold Gv
  obtain ⟨pl, l, rfl, e1⟩ := optI_part el rl
  obtain ⟨ph, u, rfl, e2⟩ := optI_part eh rh
  obtain ⟨ps, q, rfl, e3⟩ := optI_part es rs
  split at e
  · rename_i x
    obtain ⟨h1, rfl⟩ := ite_some e
    obtain ⟨hl, t, rfl⟩ := ra.toStr
    subst h1
    have hq : q = none := by cases q with | none => rfl | some _ => cases e3
    subst hq
    have hlen := sliceStr_len x lo hi
    refine wpAny_getItem_str_slice (l := l) (u := u) (st := none) ho rfl ?_
    unfold sliceMade slicePicked
    subst e1 e2
    simp only [Option.map_none, Option.getD_none, beq_self_eq_true, Bool.true_and]
    unfold sliceStr at hlen ⊢
    split
    · exact here0 (.str hl)
    · rename_i hne
      rw [if_neg hne] at hlen
      exact ⟨by rw [sizeLine_eq]; (first | lia | omega), here (.str (by (first | lia | omega)))⟩
  · rename_i xs
    obtain ⟨h1, rfl⟩ := ite_some e
    obtain ⟨hle, a, ia, rfl, _, pa, r1⟩ := ra.toList
    have hn := r1.length
    rw [Array.length_toList] at hn
    refine wpAny_getItem_list_slice (PlainList.isList pa) ho pl ph ps h1 ?_ (by rw [sizeLine_eq, hn]; (first | lia | omega))
    have hr : VReps W s.heap (pickL xs lo hi st) ((sliceIdx lo hi st ia.size).filterMap (ia.toList[·]?)) := by
      unfold pickL
      rw [← hn]
      exact r1.pick _
    have hz := slicePick_size_le ia lo hi st
    have hsz : (pickL xs lo hi st).length ≤ 2 ^ 20 := by
      rw [← hr.length]
      have : ((sliceIdx lo hi st ia.size).filterMap (ia.toList[·]?)).length = (slicePick ia lo hi st).size := by
        unfold slicePick sliceIdx; simp
      rw [this]; (first | lia | omega)
    have e : (slicePick ia lo hi st) = ((sliceIdx lo hi st ia.size).filterMap (ia.toList[·]?)).toArray := by
      unfold slicePick sliceIdx; simp
    rw [e]
    exact new_list (tk' := s.toks) hsz hW hr
  · cases e
end
end Mine
namespace Mine

/-! built-in calls -/
noncomputable def sumV : List V → Option Int
  | [] => some 0
  | .int a :: r => (sumV r).map (a + ·)
  | _ => none
noncomputable def strsV : List V → Option (List Str)
  | [] => some []
  | .str a :: r => (strsV r).map (a :: ·)
  | _ => none
noncomputable def joinLen (ss : List Str) : Nat := (ss.map (·.length)).sum
noncomputable def lenV : V → Option V
  | .str x => some (.int x.length)
  | .list xs => some (.int xs.length)
  | _ => none
noncomputable def builtinV (f : Str) (args : List V) : Option V :=
  if f = "len" then match args with | [v] => lenV v | _ => none
  else if f = "sum" then match args with | [.list xs] => (sumV xs).map .int | _ => none
  else if f = "min" then match args with | [.int a, .int b] => some (.int (if b < a then b else a)) | _ => none
  else if f = "max" then match args with | [.int a, .int b] => some (.int (if b > a then b else a)) | _ => none
  else if f = "str" then match args with | [.int a] => if a.natAbs.log2 < 1920 ∧ (Str.ofString (toString a)).length ≤ 2 ^ 20 then some (.str (toString a)) else none | _ => none
  else if f = "int" then match args with | [.str x] => if x.length ≤ 640 then (PySem.intText? x).map .int else none | _ => none
  else none
/-- what name stands for which built-in -/
noncomputable def builtinOf (f : Str) : Option Value :=
  if f = "len" then some (.builtin "len") else if f = "sum" then some (.builtin "sum") else if f = "min" then some (.builtin "min") else if f = "max" then some (.builtin "max")
  else if f = "str" then some (.type "str") else if f = "int" then some (.type "int") else none
noncomputable def isiV : V → Str → Option V
  | .bool _, T => if T = "bool" then some (.bool true) else if T = "int" then some (.bool true) else none
  | .int _, T => if T = "bool" then some (.bool false) else if T = "int" then some (.bool true) else none
  | _, _ => none
noncomputable def methV (m : Str) (o : V) (args : List V) : Option V := match o, args with
  | .str x, [.list xs] => if m = "join" then (strsV xs).bind fun ss => if joinLen ss + ss.length * x.length ≤ 2 ^ 20 then some (.str (Txt.join x ss)) else none else none
  | .str x, [.str y] => if m = "find" then some (.int (Txt.find x y)) else if m = "split" then
      (if x.length ≤ 2 ^ 20 ∧ y.length ≠ 0 ∧ (Builtin.Str.occurrences x y 0 x.length (x.length + 1)).length < 2 ^ 20 ∧ (Txt.split x y).length ≤ 2 ^ 20 ∧ ((Txt.split x y).all fun p => decide (p.length ≤ 2 ^ 20)) = true then some (.list ((Txt.split x y).map .str)) else none) else none
  | .str x, [.str y, .int i] => if m = "find" then some (.int (Txt.find3 x y i)) else none
  | .str x, [] => if m = "lower" then (if x.length ≤ 1000 ∧ (Txt.lower x).length ≤ 2 ^ 20 then some (.str (Txt.lower x)) else none) else none
  | _, _ => none

theorem sumV_of {W h} : ∀ {xs : List V} {vals : List Value} {n : Int}, sumV xs = some n → VReps W h xs vals →
    ∃ ns : List Int, ns.sum = n ∧ ns.length = vals.length ∧ ∀ (i : Nat) (v : Value), vals[i]? = some v → ∃ t, v = .int (ns.getD i 0) t
  | [], _, n, e, r => by
    cases e; have := r.unnil; subst this
    exact ⟨[], rfl, rfl, by simp⟩
  | .int a :: xs, _, n, e, r => by
    obtain ⟨x, l, rfl, r1, r2⟩ := r.uncons
    simp only [sumV, Option.map_eq_some_iff] at e
    obtain ⟨k, e1, rfl⟩ := e
    obtain ⟨ns, h1, h2, h3⟩ := sumV_of e1 r2
    refine ⟨a :: ns, by simp [h1], by simp [h2], fun i v hv => ?_⟩
    cases i with
    | zero => simp at hv; subst hv; simpa using r1.toInt
    | succ i => simp at hv; simpa using h3 i v hv
  | .none :: _, _, _, e, _ => by simp [sumV] at e
  | .bool _ :: _, _, _, e, _ => by simp [sumV] at e
  | .str _ :: _, _, _, e, _ => by simp [sumV] at e
  | .list _ :: _, _, _, e, _ => by simp [sumV] at e
  | .tup _ :: _, _, _, e, _ => by simp [sumV] at e
theorem preSum_getD (ns : List Int) : ∀ n, n ≤ ns.length → preSum (fun i => ns.getD i 0) n = (ns.take n).sum := by
  intro n
  induction n with
  | zero => intro _; simp [preSum]
  | succ n ih =>
    intro h
    rw [preSum, ih (by (first | lia | omega)), List.take_succ_eq_append_getElem (show n < ns.length by (first | lia | omega)), List.sum_append]
    have : ns[n]? = some ns[n] := List.getElem?_eq_getElem (by (first | lia | omega))
    simp [this]
theorem strsV_of {W h} : ∀ {xs : List V} {vals : List Value} {ss : List Str}, strsV xs = some ss → VReps W h xs vals → StrsAre vals ss
  | [], _, n, e, r => by cases e; have := r.unnil; subst this; exact .nil
  | .str a :: xs, _, n, e, r => by
    obtain ⟨x, l, rfl, r1, r2⟩ := r.uncons
    simp only [strsV, Option.map_eq_some_iff] at e
    obtain ⟨k, e1, rfl⟩ := e
    obtain ⟨_, t, rfl⟩ := r1.toStr
    exact .cons _ _ (strsV_of e1 r2)
  | .none :: _, _, _, e, _ => by simp [strsV] at e
  | .bool _ :: _, _, _, e, _ => by simp [strsV] at e
  | .int _ :: _, _, _, e, _ => by simp [strsV] at e
  | .list _ :: _, _, _, e, _ => by simp [strsV] at e
  | .tup _ :: _, _, _, e, _ => by simp [strsV] at e

section
variable {prog : Program} {w : World} {A : Around} {W : List Addr} {s : Shared}

theorem glue_size (x : Str) : ∀ (ss : List Str) (a : Array Nat), (ss.foldl (fun acc p => acc ++ x.cps ++ p.cps) a).size = a.size + joinLen ss + ss.length * x.length
  | [], a => by simp [joinLen]
  | p :: ss, a => by
    rw [List.foldl_cons, glue_size x ss]
    simp only [joinLen, List.map_cons, List.sum_cons, List.length_cons, Array.size_append, Str.length, Nat.add_mul]
    (first | lia | omega)
theorem join_len (x : Str) (ss : List Str) : (Txt.join x ss).length ≤ joinLen ss + ss.length * x.length := by
  show ((ss.drop 1).foldl (fun acc p => acc ++ x.cps ++ p.cps) (ss.headD Str.empty).cps).size ≤ _
  rw [glue_size]
  cases ss with
  | nil => simp [joinLen, Str.empty]
  | cons p ss =>
    simp only [joinLen, List.map_cons, List.sum_cons, List.length_cons, List.drop_one, List.tail_cons, List.headD_cons, Str.length, Nat.add_mul]
    (first | lia | omega)

theorem builtinV_sound (hh : A.handled = none) {f : Str} {args : List V} {r : V} {fv : Value} {vals : List Value} (e : builtinV f args = some r) (ef : builtinOf f = some fv) (ra : VReps W s.heap args vals) :
    Gv prog w A W s (call fv vals) r := by
  unfold builtinV at e
  unfold builtinOf at ef
  unfold Gv
  split at e
  · rename_i hf
    rw [if_pos hf] at ef; cases ef
    split at e
    · rename_i v
      obtain ⟨x, l, rfl, r1, r2⟩ := ra.uncons
      have := r2.unnil; subst this
      unfold lenV at e
      split at e
      · cases e
        obtain ⟨hl, t, rfl⟩ := r1.toStr
        exact PyProof.Rows.len_str (by (first | lia | omega)) (here .int)
      · cases e
        obtain ⟨hl, a, ia, rfl, _, pa, r3⟩ := r1.toList
        have hn := r3.length
        rw [Array.length_toList] at hn
        refine PySem.Calls.call_len_list (PlainList.isList pa) (by (first | lia | omega)) ?_
        rw [hn]
        exact here .int
      · cases e
    · cases e
  · rename_i hf
    rw [if_neg hf] at ef
    split at e
    · rename_i hf
      rw [if_pos hf] at ef; cases ef
      split at e
      · rename_i xs
        obtain ⟨x, l, rfl, r1, r2⟩ := ra.uncons
        have := r2.unnil; subst this
        rw [Option.map_eq_some_iff] at e
        obtain ⟨n, e1, rfl⟩ := e
        obtain ⟨hl, a, ia, rfl, _, pa, r3⟩ := r1.toList
        obtain ⟨ns, h1, h2, h3⟩ := sumV_of e1 r3
        have hla : a < s.heap.objs.size := by obtain ⟨_, e⟩ := pa; exact Heap.lt_size e
        refine call_sum_walkG (wpAny_pyIter_list (PlainList.isList pa) ?_)
        refine ⟨s.heap.objs.size, [s.heap.objs.size, a], [s.heap.objs.size], ia.size, _, _, (fun i => ns.getD i 0), rfl,
          Walks.list (A := A.in1) hh s.heap.objs.size a (Nat.ne_of_lt hla) ia, ⟨⟨_, Heap.get?_push_size _ rfl, rfl, rfl⟩, (PlainList.isList pa).push _⟩, ?_, ?_, ?_⟩
        · intro b hb
          show b < (s.heap.push _).objs.size
          rw [Heap.size_push]
          rcases List.mem_cons.mp hb with rfl | hb
          · exact Nat.lt_succ_self _
          · rw [List.mem_singleton.mp hb]; exact Nat.lt_succ_of_lt hla
        · intro i v hv
          exact h3 i v (by simpa using hv)
        · intro h' tk t' hk
          refine ⟨h', tk, rfl, fun b o eb => hk b o ?_ (Heap.get?_push_of_some _ eb), ?_⟩
          · intro hm; rw [List.mem_singleton.mp hm] at eb; exact Nat.lt_irrefl _ (Heap.lt_size eb)
          · have : preSum (fun i => ns.getD i 0) ia.size = n := by
              rw [← Array.length_toList, ← h2, preSum_getD _ _ (Nat.le_refl _), List.take_length, h1]
            rw [this]; exact .int
      · cases e
    · rename_i hf
      rw [if_neg hf] at ef
      split at e
      · rename_i hf
        rw [if_pos hf] at ef; cases ef
        split at e
        · rename_i a b
          cases e
          obtain ⟨x, l, rfl, r1, r2⟩ := ra.uncons
          obtain ⟨y, l, rfl, r3, r4⟩ := r2.uncons
          have := r4.unnil; subst this
          obtain ⟨t, rfl⟩ := r1.toInt; obtain ⟨u, rfl⟩ := r3.toInt
          refine min_two_ints hh fun h' tk hk => ⟨h', tk, rfl, hk, ?_⟩
          split <;> exact .int
        · cases e
      · rename_i hf
        rw [if_neg hf] at ef
        split at e
        · rename_i hf
          rw [if_pos hf] at ef; cases ef
          split at e
          · rename_i a b
            cases e
            obtain ⟨x, l, rfl, r1, r2⟩ := ra.uncons
            obtain ⟨y, l, rfl, r3, r4⟩ := r2.uncons
            have := r4.unnil; subst this
            obtain ⟨t, rfl⟩ := r1.toInt; obtain ⟨u, rfl⟩ := r3.toInt
            refine max_two_ints hh fun h' tk hk => ⟨h', tk, rfl, hk, ?_⟩
            split <;> exact .int
          · cases e
        · rename_i hf
          rw [if_neg hf] at ef
          split at e
          · rename_i hf
            rw [if_pos hf] at ef; cases ef
            split at e
            · rename_i a
              obtain ⟨ha, rfl⟩ := ite_some e
              obtain ⟨x, l, rfl, r1, r2⟩ := ra.uncons
              have := r2.unnil; subst this
              obtain ⟨t, rfl⟩ := r1.toInt
              exact PySem.P.str_of_int ha.1 (here (.str ha.2))
            · cases e
          · rename_i hf
            rw [if_neg hf] at ef
            split at e
            · rename_i hf
              rw [if_pos hf] at ef; cases ef
              split at e
              · rename_i a
                split at e
                · rename_i hl
                  rw [Option.map_eq_some_iff] at e
                  obtain ⟨n, hn, rfl⟩ := e
                  obtain ⟨x, l, rfl, r1, r2⟩ := ra.uncons
                  have := r2.unnil; subst this
                  obtain ⟨_, t, rfl⟩ := r1.toStr
                  exact KIN.call_text hn hl (here .int)
                · cases e
              · cases e
            · cases e

theorem split_sound {x y : Str} {t u : Tok} (hW : ∀ a ∈ W, ∃ o, s.heap.get? a = some o) (h0 : x.length ≤ 2 ^ 20) (hy : y.length ≠ 0) (h1 : (Builtin.Str.occurrences x y 0 x.length (x.length + 1)).length < 2 ^ 20) (h2 : (Txt.split x y).length ≤ 2 ^ 20) (h3 : ∀ p ∈ Txt.split x y, p.length ≤ 2 ^ 20) :
    Gv prog w A W s (call (.builtin "str.split") [.str x t, .str y u]) (.list ((Txt.split x y).map .str)) := by
  have hy' : (y.length == 0) = false := by simpa using hy
  have fin : ∀ (l : List (Str × Tok)) (tk : Nat), l.map (·.1) = Txt.split x y → ∃ h' tk', ({ s with heap := s.heap.push { cls := .type "list", data := .seq (strValues l).toArray }, toks := tk } : Shared) = { s with heap := h', toks := tk' } ∧ KeepsH s.heap h' ∧ VRep W h' (.list ((Txt.split x y).map .str)) (.ref s.heap.objs.size) := fun l tk e => by
    refine new_list (by simpa using h2) hW ?_
    rw [← e] at h3 ⊢
    clear e
    induction l with
    | nil => exact .nil
    | cons p r ih => exact .cons (.str (h3 _ (by simp))) (ih fun q hq => h3 q (by simp at hq ⊢; exact .inr hq))
  have hsz2 : (Builtin.Str.partsBetween x (Builtin.Str.occurrences x y 0 x.length (x.length + 1)) y.length).length ≤ sizeLine := by
    unfold Builtin.Str.partsBetween
    rw [sizeLine_eq]
    simp
    (first | lia | omega)
  unfold Gv
  cases hc : (decide (x.length < y.length) || decide (Builtin.Str.strKind x < Builtin.Str.strKind y))
  · cases hf : (Builtin.Str.occurrences x y 0 x.length (x.length + 1)).isEmpty
    · refine call_meets F.slot_str_split (typeIs_str _ _ _) F.entry_str_split (F.args_str_split_2 _ _) (meets_str_split_sep x y t u hc hy' hf (by rw [sizeLine_eq]; (first | lia | omega)) hsz2) ?_
      rw [strsFrom_eq]
      exact fin (numbered s.toks _) _ ((numbered_texts _ _).trans ((if_neg (ne_true_of_eq_false hc)).trans (if_neg (ne_true_of_eq_false hf))).symm)
    · exact call_meets F.slot_str_split (typeIs_str _ _ _) F.entry_str_split (F.args_str_split_2 _ _) (meets_str_split_not_found x y t u hc hy' hf) (fin [(x, t)] _ ((if_neg (ne_true_of_eq_false hc)).trans (if_pos hf)).symm)
  · exact call_meets F.slot_str_split (typeIs_str _ _ _) F.entry_str_split (F.args_str_split_2 _ _) (meets_str_split_cannot_occur x y t u hc) (fin [(x, t)] _ (if_pos hc).symm)

theorem isiV_sound {v : V} {T : Str} {r : V} {x : Value} (e : isiV v T = some r) (ra : VRep W s.heap v x) :
    (T = "bool" ∨ T = "int") ∧ ∀ T' : String, (T = "bool" → T' = "bool") → (T = "int" → T' = "int") → Gv prog w A W s (call (.builtin "isinstance") [x, .type T']) r := by
  unfold isiV at e
  split at e
  · split at e
    · rename_i h
      refine ⟨.inl h, fun T' h1 _ => ?_⟩
      rw [h1 h]; cases e
      rw [ra.toBool]
      exact IsiPair.bool_bool (here0 .bool)
    · obtain ⟨h, rfl⟩ := ite_some e
      refine ⟨.inr h, fun T' _ h1 => ?_⟩
      rw [h1 h]
      rw [ra.toBool]
      exact IsiPair.bool_int (here0 .bool)
  · split at e
    · rename_i h
      refine ⟨.inl h, fun T' h1 _ => ?_⟩
      rw [h1 h]; cases e
      obtain ⟨t, rfl⟩ := ra.toInt
      exact IsiPair.int_bool (here .bool)
    · obtain ⟨h, rfl⟩ := ite_some e
      refine ⟨.inr h, fun T' _ h1 => ?_⟩
      rw [h1 h]
      obtain ⟨t, rfl⟩ := ra.toInt
      exact IsiPair.int_int (here0 .bool)
  · cases e

theorem methV_sound (hW : ∀ a ∈ W, ∃ o, s.heap.get? a = some o) {m : Str} {o r : V} {args : List V} {x : Value} (e : methV m o args = some r) (ro : VRep W s.heap o x) :
    ∃ T id, PlainAttrs T ∧ Slot T m id ∧ typeOf (.builtin id) = pure (.type "method_descriptor") ∧ s.TypeIs x T ∧ (∀ a, x = .ref a → ∃ ob, s.heap.get? a = some ob ∧ ob.dict = none) ∧
      ∀ (h2 : Heap) (tk2 : Nat) (vals : List Value), KeepsH s.heap h2 → VReps W h2 args vals → Gv prog w A W { s with heap := h2, toks := tk2 } (call (.builtin id) (x :: vals)) r := by
  unfold methV at e
  unfold Gv
  split at e
  · rename_i x xs
    split at e
    · rename_i hm
      subst hm
      rw [Option.bind_eq_some_iff] at e
      obtain ⟨ss, e1, e2⟩ := e
      obtain ⟨h1, rfl⟩ := ite_some e2
      obtain ⟨_, t, rfl⟩ := ro.toStr
      refine ⟨"str", "str.join", F.plainAttrs_str, F.slot_str_join, F.type_str_join, typeIs_str _ _ _, (fun a e => by cases e), fun h2 tk2 vals k2 ra => ?_⟩
      obtain ⟨y, l, rfl, r1, r2⟩ := ra.uncons
      have := r2.unnil; subst this
      obtain ⟨_, a, ia, rfl, _, pa, r3⟩ := r1.toList
      have hi := strsV_of e1 r3
      have hj := join_len x ss
      refine PyProof.Rows.join_list (PlainList.isList pa) hi (by unfold joinLen at h1; (first | lia | omega)) fun t' k => here (.str ?_)
      (first | lia | omega)
    · cases e
  · rename_i x y
    split at e
    · rename_i hm
      cases e
      subst hm
      obtain ⟨_, t, rfl⟩ := ro.toStr
      refine ⟨"str", "str.find", F.plainAttrs_str, F.slot_str_find, F.type_str_find, typeIs_str _ _ _, (fun a e => by cases e), fun h2 tk2 vals k2 ra => ?_⟩
      obtain ⟨y, l, rfl, r1, r2⟩ := ra.uncons
      have := r2.unnil; subst this
      obtain ⟨_, u, rfl⟩ := r1.toStr
      exact SC.find (here .int)
    · split at e
      · rename_i hm
        obtain ⟨hc, rfl⟩ := ite_some e
        subst hm
        obtain ⟨_, t, rfl⟩ := ro.toStr
        refine ⟨"str", "str.split", F.plainAttrs_str, F.slot_str_split, F.type_str_split, typeIs_str _ _ _, (fun a e => by cases e), fun h2 tk2 vals k2 ra => ?_⟩
        obtain ⟨y, l, rfl, r1, r2⟩ := ra.uncons
        have := r2.unnil; subst this
        obtain ⟨_, u, rfl⟩ := r1.toStr
        exact split_sound (s := { s with heap := h2, toks := tk2 }) (fun a ha => let ⟨o, e⟩ := hW a ha; ⟨o, k2 _ _ e⟩) hc.1 hc.2.1 hc.2.2.1 hc.2.2.2.1 (by simpa [List.all_eq_true] using hc.2.2.2.2)
      · cases e
  · rename_i x y i
    obtain ⟨hm, rfl⟩ := ite_some e
    subst hm
    obtain ⟨_, t, rfl⟩ := ro.toStr
    refine ⟨"str", "str.find", F.plainAttrs_str, F.slot_str_find, F.type_str_find, typeIs_str _ _ _, (fun a e => by cases e), fun h2 tk2 vals k2 ra => ?_⟩
    obtain ⟨y, l, rfl, r1, r2⟩ := ra.uncons
    obtain ⟨z, l, rfl, r3, r4⟩ := r2.uncons
    have := r4.unnil; subst this
    obtain ⟨_, u, rfl⟩ := r1.toStr
    obtain ⟨q, rfl⟩ := r3.toInt
    exact SC.find3 (here .int)
  · rename_i x
    split at e
    · rename_i hm
      subst hm
      obtain ⟨h1, rfl⟩ := ite_some e
      obtain ⟨_, t, rfl⟩ := ro.toStr
      refine ⟨"str", "str.lower", F.plainAttrs_str, F.slot_str_lower, F.type_str_lower, typeIs_str _ _ _, (fun a e => by cases e), fun h2 tk2 vals k2 ra => ?_⟩
      have := ra.unnil; subst this
      exact SC.lower (by unfold Builtin.Str.tooLong; rw [decide_eq_false_iff_not, sizeLine_eq]; (first | lia | omega)) (here (.str h1.2))
    · cases e
  · cases e
end
end Mine
namespace Mine

noncomputable def relK (names kd : List (Str × NameKind)) : List (Str × NameKind) :=
  names.map fun p => if (p.2 == .free && kd.lookup p.1 == some .cell) = true then (p.1, .cell) else p
theorem relabel_names {scope : Scope} {env : Env} {kd : List (Str × NameKind)} (hf : env.scope.kind = .function) (hk : env.scope.names = kd) : (relabel scope env).names = relK scope.names kd := by
  subst hk
  unfold relabel relK Env.kindOf
  simp only [hf, beq_self_eq_true, Bool.and_true]
theorem lookup_relK (kd : List (Str × NameKind)) (x : Str) : ∀ names : List (Str × NameKind), (relK names kd).lookup x = (names.lookup x).map fun k => if (k == .free && kd.lookup x == some .cell) = true then .cell else k
  | [] => rfl
  | (n, k) :: r => by
    have ih := lookup_relK kd x r
    unfold relK at ih ⊢
    rw [List.map_cons]
    dsimp only
    cases hx : x == n with
    | true =>
      have := beq_iff_eq.mp hx
      subst this
      by_cases hc : (k == NameKind.free && kd.lookup x == some NameKind.cell) = true
      · rw [if_pos hc, List.lookup_cons, List.lookup_cons, hx]; simp only [Option.map_some]; rw [if_pos hc]
      · rw [if_neg hc, List.lookup_cons, List.lookup_cons, hx]; simp only [Option.map_some]; rw [if_neg hc]
    | false =>
      by_cases hc : (k == NameKind.free && kd.lookup n == some NameKind.cell) = true
      · rw [if_pos hc]; simp only [List.lookup_cons, hx]; exact ih
      · rw [if_neg hc]; simp only [List.lookup_cons, hx]; exact ih

theorem cellsFrom_other {x : Str} : ∀ (names : List (Str × NameKind)) (n : Nat) (acc : List (Str × Addr)), (∀ k, (x, k) ∈ names → k ≠ .cell) → (cellsFrom n names acc).lookup x = acc.lookup x
  | [], _, _, _ => rfl
  | (y, k) :: r, n, acc, h => by
    unfold cellsFrom
    have hr : ∀ k, (x, k) ∈ r → k ≠ .cell := fun k hk => h k (List.mem_cons_of_mem _ hk)
    split
    · rename_i hk
      rw [cellsFrom_other r _ _ hr, List.lookup_cons]
      cases hx : x == y with
      | false => rfl
      | true =>
        have := beq_iff_eq.mp hx
        subst this
        exact absurd (by simpa using hk) (h k List.mem_cons_self)
    · exact cellsFrom_other r _ _ hr
theorem cellsFrom_has {x : Str} : ∀ (names : List (Str × NameKind)) (h : Heap) (acc : List (Str × Addr)), (x, NameKind.cell) ∈ names →
    ∃ c, (cellsFrom h.objs.size names acc).lookup x = some c ∧ (pushCells h names).IsCell c none ∧ h.objs.size ≤ c
  | [], _, _, hm => by cases hm
  | (y, k) :: r, h, acc, hm => by
    unfold cellsFrom pushCells
    by_cases hr : (x, NameKind.cell) ∈ r
    · split
      · obtain ⟨c, a, b, e⟩ := cellsFrom_has r (h.push { cls := .type "cell", data := .cell none }) ((y, h.objs.size) :: acc) hr
        rw [Heap.size_push] at a e
        exact ⟨c, a, b, by (first | lia | omega)⟩
      · exact cellsFrom_has r h acc hr
    · have : (y, k) = (x, NameKind.cell) := by
        rcases List.mem_cons.mp hm with e | e
        · exact e.symm
        · exact absurd e hr
      cases this
      simp only [beq_self_eq_true, if_true]
      refine ⟨h.objs.size, ?_, ?_, Nat.le_refl _⟩
      · rw [cellsFrom_other r _ _ (fun k hk e => hr (by subst e; exact hk)), List.lookup_cons]; simp
      · exact ⟨_, pushCells_keeps _ _ _ _ (Heap.get?_push_size _ rfl), rfl⟩

theorem closure_of {env : Env} {scope : Scope} (h : ∀ n, (n, NameKind.free) ∈ scope.names → (env.cells.lookup n).isSome = true) :
    ∃ cl, closureFor scope env = pure cl ∧ ∀ n, (n, NameKind.free) ∈ scope.names → cl.lookup n = env.cells.lookup n := by
  have key : ∀ (names : List (Str × NameKind)) (acc : List (Str × Addr)) , (∀ n, (n, NameKind.free) ∈ names → (env.cells.lookup n).isSome = true) →
      ∃ cl, (forIn names acc (fun (x : Str × NameKind) (cs : List (Str × Addr)) => (if (x.2 == NameKind.free) = true then (do let a ← cellOf env x.1; pure (ForInStep.yield ((x.1, a) :: cs))) else pure (ForInStep.yield cs) : Sem _))) = (pure cl : Sem _) ∧
        ∀ n, cl.lookup n = (if (n, NameKind.free) ∈ names then env.cells.lookup n else acc.lookup n) := by
    intro names
    induction names with
    | nil => intro acc _; exact ⟨acc, rfl, fun n => by simp⟩
    | cons x r ih =>
      intro acc hx
      obtain ⟨m, k⟩ := x
      rw [List.forIn_cons]
      by_cases hk : k = .free
      · subst hk
        obtain ⟨a, ha⟩ := Option.isSome_iff_exists.mp (hx m List.mem_cons_self)
        have e1 : cellOf env m = pure a := by unfold cellOf; rw [ha]
        obtain ⟨cl, h1, h2⟩ := ih ((m, a) :: acc) (fun n hn => hx n (List.mem_cons_of_mem _ hn))
        refine ⟨cl, ?_, fun n => ?_⟩
        · simp only [beq_self_eq_true, if_true, e1, pure_bind]
          exact h1
        · rw [h2 n]
          by_cases hn : (n, NameKind.free) ∈ r
          · simp [hn]
          · rw [if_neg hn, List.lookup_cons]
            cases hnm : n == m with
            | true => have := beq_iff_eq.mp hnm; subst this; simp [ha]
            | false =>
              have : n ≠ m := by intro e; subst e; simp at hnm
              simp [hn, this]
      · obtain ⟨cl, h1, h2⟩ := ih acc (fun n hn => hx n (List.mem_cons_of_mem _ hn))
        refine ⟨cl, ?_, fun n => ?_⟩
        · have : (k == NameKind.free) = false := by simpa using hk
          simp only [this, Bool.false_eq_true, if_false, pure_bind]
          exact h1
        · rw [h2 n]
          have : (n, NameKind.free) ≠ (m, k) := fun e => hk (by cases e; rfl)
          simp [this]
  obtain ⟨cl, h1, h2⟩ := key scope.names [] h
  refine ⟨cl, ?_, fun n hn => by rw [h2 n, if_pos hn]⟩
  unfold closureFor
  have : (forIn scope.names [] fun x r =>
      match x with
      | (name, kind) =>
        if (kind == NameKind.free) = true then do
          let __do_lift ← cellOf env name
          pure (ForInStep.yield ((name, __do_lift) :: r))
        else pure (ForInStep.yield r) : Sem _) = pure cl := h1
  first
    | (rw [this]; rfl)
    | (simp only [this]; rfl)
    | (have := congrArg (· >>= fun cs => (pure cs : Sem _)) this; exact this)
end Mine
namespace Mine

/-- a tree that ends in something to walk: its items stand for xs -/
noncomputable def Src (prog : Program) (w : World) (A : Around) (W : List Addr) (s : Shared) (t : Sem Value) (xs : List V) : Prop :=
  wpAny (model prog w) A t (fun xv s₁ => wpAny (model prog w) A (pyIter xv) (fun it s₂ => ∃ I fp P St, it = .ref I ∧ (∃ h₂ tk₂, s₂ = { s with heap := h₂, toks := tk₂ }) ∧ KeepsH s.heap s₂.heap ∧ s.heap.get? I = none ∧
    Walks prog w A I fp [I] xs.length P St ∧ St 0 s₂.heap ∧ (∀ b ∈ fp, b < s₂.heap.objs.size) ∧ (∀ b ∈ fp, b ≠ I → ∃ o, s₂.heap.get? b = some o ∧ isSeqObj o ∧ b ∉ W) ∧ (∀ i h, St i h → ∃ o, h.get? I = some o ∧ ¬ isSeqObj o) ∧
    (∃ L, OkL (I :: W) s₂.heap L ∧ ∀ (i : Nat) v, P i v → ∀ x, xs[i]? = some x → ∀ h' W', OkL W' h' L → VRep W' h' x v)) (fun _ _ => False) s₁) (fun _ _ => False) s

noncomputable def cells1 (C : Addr) (scope : Scope) (cl : List (Str × Addr)) : List (Str × Addr) := cellsFrom (C + 1) scope.names cl
noncomputable def cenv1 (scope : Scope) (env : Env) (C : Addr) (cl : List (Str × Addr)) : Env :=
  { scope := relabel scope env, locals := C, globals := env.globals, cells := cells1 C scope cl, qual := env.qual, func := none, code := env.code, frame := env.frame, builtins := env.builtins }

section
variable {prog : Program} {w : World} {A : Around} {E : Value → Shared → Prop} {s : Shared}
theorem newEnv_comp {scope : Scope} {env : Env} {cl : List (Str × Addr)} {Q : Env → Shared → Prop}
    (h : Q { scope, locals := s.heap.objs.size, globals := env.globals, cells := cells1 s.heap.objs.size scope cl, qual := env.qual, func := none, code := env.code, frame := env.frame, builtins := env.builtins }
      { s with heap := pushCells (s.heap.push { cls := .type "dict", data := .dict #[] }) scope.names }) :
    wpAny (model prog w) A (newFunctionEnv scope env.globals cl [] env.qual none .none (some env)) Q E s := by
  simp only [newFunctionEnv, Option.isSome_some, if_true]
  refine wpAny_bind (wpAny_alloc ?_)
  refine wpAny_bind (wpAny_layCells _ (fun name kind cells => by cases hkc : kind == NameKind.cell <;> simp [hkc]) _ _ _ _ ?_)
  refine wpAny_bind ?_
  rw [show (forIn ([] : List (Str × Value)) PUnit.unit _ : Sem PUnit) = pure PUnit.unit from List.forIn_nil]
  refine wpAny_pure (wpAny_pure ?_)
  rw [show ({ s with heap := s.heap.push { cls := .type "dict", data := .dict #[] } } : Shared).heap.objs.size = s.heap.objs.size + 1 from Heap.size_push ..]
  exact h
end

/-- the comprehension's frame while it goes on -/
structure CompAt (h : Heap) (scope : Scope) (x : Str) (C : Addr) (cl : List (Str × Addr)) : Prop where
  ns : ∃ m, h.Ns C m
  cell : scope.names.lookup x = some .cell → ∃ c v, (cells1 C scope cl).lookup x = some c ∧ h.IsCell c v ∧ C < c

noncomputable def capP (scope : Scope) (kd : List (Str × NameKind)) (y : Str) : Bool := scope.names.lookup y == some .free && kd.lookup y == some .cell && !(scope.names.contains (y, NameKind.cell))
noncomputable def compVars (scope : Scope) (kd : List (Str × NameKind)) (vars : Vars) (x : Str) (xi : V) : Vars :=
  (x, xi) :: vars.filter fun p => capP scope kd p.1
theorem lookup_filter_key {α : Type} (P : Str → Bool) (y : Str) : ∀ l : List (Str × α), (l.filter fun p => P p.1).lookup y = if P y = true then l.lookup y else none
  | [] => by simp
  | (n, v) :: r => by
    have ih := lookup_filter_key P y r
    rw [List.filter_cons]
    cases hy : y == n with
    | true =>
      have := beq_iff_eq.mp hy; subst this
      cases hp : P y with
      | true => simp [List.lookup_cons]
      | false => simp only [hp, Bool.false_eq_true, if_false] at ih ⊢; exact ih
    | false =>
      cases hp : P n with
      | true => simp only [if_true, List.lookup_cons, hy]; exact ih
      | false => simp only [Bool.false_eq_true, if_false, List.lookup_cons, hy]; exact ih

structure KeepsW (fs : List Addr) (h h' : Heap) : Prop where
  other : ∀ b o, h.get? b = some o → b ∉ fs → h'.get? b = some o
  frame : ∀ b o, h.get? b = some o → b ∈ fs → ∃ sl, h'.get? b = some { o with slots := sl }
theorem KeepsW.of {fs : List Addr} {h h' : Heap} (k : KeepsH h h') : KeepsW fs h h' := ⟨fun b o e _ => k b o e, fun b o e _ => ⟨o.slots, k b o e⟩⟩
theorem KeepsW.trans {fs : List Addr} {h h' h'' : Heap} (x : KeepsW fs h h') (y : KeepsW fs h' h'') : KeepsW fs h h'' :=
  ⟨fun b o e m => y.other b o (x.other b o e m) m, fun b o e m => by
    obtain ⟨s1, h1⟩ := x.frame b o e m
    obtain ⟨s2, h2⟩ := y.frame b _ h1 m
    exact ⟨s2, h2⟩⟩

theorem KeepsW.keepsH {h h' : Heap} (k : KeepsW [] h h') : KeepsH h h' := fun b o e => k.other b o e (List.not_mem_nil)
section
variable {fs : List Addr} {h h' : Heap} {b : Addr} {o : Obj}
theorem KeepsW.off (k : KeepsW fs h h') (D : KtsDicts fs h) (e : h.get? b = some o) (hd : ∀ es n, o.data ≠ .dict es n) : h'.get? b = some o := k.other b o e fun m => by
  obtain ⟨o', es, n, e', hd'⟩ := D b m
  rw [e] at e'; cases e'
  exact hd es n hd'
theorem KeepsW.seq (k : KeepsW fs h h') (D : KtsDicts fs h) (e : h.get? b = some o) (hq : isSeqObj o) : h'.get? b = some o := k.off D e fun es n q => by
  obtain ⟨its, n, hq⟩ := hq
  rw [q] at hq; cases hq
theorem KeepsW.cell (k : KeepsW fs h h') (D : KtsDicts fs h) {v : Option Value} (e : h.get? b = some o) (hq : o.data = .cell v) : h'.get? b = some o := k.off D e fun es n q => by rw [q] at hq; cases hq
theorem KeepsW.ex (k : KeepsW fs h h') (e : h.get? b = some o) : ∃ o, h'.get? b = some o := by
  by_cases m : b ∈ fs
  · obtain ⟨sl, hs⟩ := k.frame b o e m; exact ⟨_, hs⟩
  · exact ⟨o, k.other b o e m⟩
theorem KeepsW.dicts (k : KeepsW fs h h') (D : KtsDicts fs h) : KtsDicts fs h' := fun b m => by
  obtain ⟨o, es, n, e, hd⟩ := D b m
  obtain ⟨sl, hs⟩ := k.frame b o e m
  exact ⟨_, es, n, hs, hd⟩
end

noncomputable def GvW (fs : List Addr) (prog : Program) (w : World) (A : Around) (W : List Addr) (s : Shared) (t : Sem Value) (v : V) : Prop :=
  wpAny (model prog w) A t (fun x s' => ∃ h' tk', s' = { s with heap := h', toks := tk' } ∧ KeepsW fs s.heap h' ∧ VRep W h' v x) (fun _ _ => False) s

noncomputable def CInvW (fs : List Addr) (s : Shared) (h₂ : Heap) (xs : List V) (test : V → Bool) (val : V → V) (W : List Addr) (I : Addr) (D : Nat) (scope : Scope) (x : Str) (cl : List (Str × Addr)) (St : Nat → Heap → Prop) (k : Nat) (s' : Shared) : Prop :=
  ∃ h' tk i items ys, s' = { s with heap := h', toks := tk } ∧ i ≤ xs.length ∧ k = xs.length + 1 - i ∧ St i h' ∧ CompAt h' scope x (D + 1) cl ∧ h'.PlainList D items ∧ VReps (D :: I :: W) h' ys items.toList ∧
    ys = ((xs.take i).filter test).map val ∧ (∀ b o, h₂.get? b = some o → b ≠ I → b ∉ fs → h'.get? b = some o) ∧ (∀ b o, h₂.get? b = some o → b ∈ fs → ∃ sl, h'.get? b = some { o with slots := sl }) ∧ (∃ o, h'.get? I = some o) ∧ (∀ a ∈ W, ∃ o, h'.get? a = some o)

theorem convE {M : Model} {A : Around} {E : Value → Shared → Prop} {s : Shared} {t : Sem Bool} {a : Sem Value} {b : Value → Sem Value} {R : Shared → Prop}
    (h : wpAny M A t (fun ok s₃ => if ok = true then wpAny M A a (fun x s₄ => wpAny M A (b x) (fun _ s₅ => R s₅) (fun _ _ => False) s₄) (fun _ _ => False) s₃ else R s₃) (fun _ _ => False) s) :
    wpAny M A t (fun ok s₃ => if ok = true then wpAny M A a (fun x s₄ => wpAny M A (b x) (fun _ s₅ => R s₅) E s₄) E s₃ else R s₃) E s :=
  wpAny_mono h (fun ok s₃ q => by
    cases ok with
    | false => simpa using q
    | true =>
      simp only [if_true] at q ⊢
      exact wpAny_mono q (fun _ _ q => wpAny_mono q (fun _ _ q => q) fun _ _ f => f.elim) fun _ _ f => f.elim) fun _ _ f => f.elim

section
variable {prog : Program} {w : World} {A : Around} {s : Shared}
set_option maxHeartbeats 1000000 in
theorem comp_coreT {fs : List Addr} {W : List Addr} {env : Env} {kd : List (Str × NameKind)} {vars : Vars} {elt iter : Expr} {x : Str} {px : Pos} {ifs : List Expr} {scope : Scope} {pos : Pos} (xs : List V) (test : V → Bool) (val : V → V)
    (R : ERep W s.heap env kd vars) (hW : ∀ a ∈ W, ∃ o, s.heap.get? a = some o) (hkind : scope.kind = .function)
    (hnames : ∀ y ∈ scope.names, y.2 = .local → scope.names.lookup y.1 = some .local)
    (hx : scope.names.lookup x = some .local ∨ (scope.names.lookup x = some .cell ∧ (x, NameKind.cell) ∈ scope.names))
    (hfree : ∀ n, (n, NameKind.free) ∈ scope.names → kd.lookup n = some .cell ∧ (vars.lookup n).isSome = true)
    (hset : ∀ v, foldedSetIterable iter env v = pure v) (src : Src prog w A W s (eval iter env) xs)
    (hfs : KtsDicts fs s.heap)
    (turnT : ∀ (i : Nat) xi, xs[i]? = some xi → ∀ (W' : List Addr) (s₃ : Shared) (cenv : Env), KeepsW fs s.heap s₃.heap → (∀ a ∈ W', ∃ o, s₃.heap.get? a = some o) → ERep W' s₃.heap cenv (relK scope.names kd) (compVars scope kd vars x xi) →
      GvB prog w A s₃ (forIn ifs true fun c r => if r = true then do let ok ← isTrue c cenv (eval c cenv); pure (ForInStep.yield ok) else pure (ForInStep.yield r)) (test xi))
    (turnE : ∀ (i : Nat) xi, xs[i]? = some xi → test xi = true → ∀ (W' : List Addr) (s₃ : Shared) (cenv : Env), KeepsW fs s.heap s₃.heap → (∀ a ∈ W', ∃ o, s₃.heap.get? a = some o) → ERep W' s₃.heap cenv (relK scope.names kd) (compVars scope kd vars x xi) →
      GvW fs prog w A W' s₃ (eval elt cenv) (val xi))
    (hlen : xs.length ≤ 2 ^ 20) {use : Option (Value → Sem Unit)} {Q : Value → Shared → Prop} {E : Value → Shared → Prop}
    (fin : ∀ (C D : Nat) (h4 : Heap) (tk4 : Nat) (m₀ : Str → Option Value), KeepsW fs s.heap h4 → h4.Ns C m₀ → s.heap.get? C = none → s.heap.get? D = none → VRep W h4 (.list ((xs.filter test).map val)) (.ref D) →
      compPost (model prog w) A E use Q (.ref D) C (.ok .next) { s with heap := h4, toks := tk4 }) :
    wpAny (model prog w) A (comprehension (.ListComp elt [⟨.Name x px, iter, ifs, 0⟩] scope pos) scope env (firstIterPos [⟨.Name x px, iter, ifs, 0⟩] pos) (newList []) false (eval iter env) use) Q E s := by
  obtain ⟨cl, hcl, hcl2⟩ := closure_of (env := env) (scope := scope) (fun n hn => by
    obtain ⟨h1, h2⟩ := hfree n hn
    obtain ⟨v, hv⟩ := Option.isSome_iff_exists.mp h2
    obtain ⟨val, hn, _⟩ := R.vars n v hv
    rcases hn with ⟨e, _⟩ | ⟨_, c, e, _⟩
    · unfold Env.kindOf at e; rw [R.kd, h1] at e; cases e
    · rw [e]; rfl)
  refine wpAny_comprehension_free (use := use) rfl hset hcl hkind hnames (wpAny_mono src (fun xv s₁ h₁ => wpAny_mono h₁ (fun it s₂ h₂ => ?_) fun _ _ e => e.elim) fun _ _ e => e.elim)
  obtain ⟨I, fp, P, St, rfl, ⟨h₂, tk₂, rfl⟩, k₂, hIn, Wk, st0, hfp, hfps, Wk4', LL, hLL, hPL⟩ := h₂
  have hP : ∀ (i : Nat) v, P i v → ∀ x, xs[i]? = some x → VRep (I :: W) h₂ x v := fun i v a x b => hPL i v a x b _ _ hLL
  refine wpAny_newObj_type (newEnv_comp ?_)
  dsimp only at k₂ st0 hfp hfps hP ⊢
  rw [Heap.size_push]
  obtain ⟨D, hD⟩ : ∃ D : Nat, h₂.objs.size = D := ⟨_, rfl⟩
  rw [hD]
  generalize hH3 : pushCells ((h₂.push { cls := .type "list", data := .seq ([] : List Value).toArray }).push { cls := .type "dict", data := .dict #[] }) scope.names = H3
  have hsz2 : (h₂.push { cls := .type "list", data := .seq ([] : List Value).toArray }).objs.size = D + 1 := by rw [Heap.size_push, hD]
  have lt2 : ∀ {b : Addr} {o : Obj}, h₂.get? b = some o → b < D := fun e => hD ▸ Heap.lt_size e
  have keep3 : ∀ b o, h₂.get? b = some o → H3.get? b = some o := fun b o e => by
    rw [← hH3]; exact pushCells_keeps _ _ _ _ (Heap.get?_push_of_some _ (Heap.get?_push_of_some _ e))
  have hD3 : H3.PlainList D #[] := ⟨0, by
    rw [← hH3, ← hD]; exact pushCells_keeps _ _ _ _ (Heap.get?_push_of_some _ (Heap.get?_push_size _ rfl))⟩
  have hC3 : H3.Ns (D + 1) (fun _ => none) := by
    rw [← hH3, ← hsz2]; exact (Heap.Ns.new _ (.type "dict")).keeps (pushCells_keeps _ _)
  have hat3 : CompAt H3 scope x (D + 1) cl := ⟨⟨_, hC3⟩, fun hc => by
    have hm : (x, NameKind.cell) ∈ scope.names := by
      rcases hx with h | h
      · rw [h] at hc; cases hc
      · exact h.2
    obtain ⟨c, a, b, e⟩ := cellsFrom_has scope.names ((h₂.push { cls := .type "list", data := .seq ([] : List Value).toArray }).push { cls := .type "dict", data := .dict #[] }) cl hm
    rw [Heap.size_push, hsz2] at a e
    exact ⟨c, none, a, hH3 ▸ b, by show D + 1 < c; (first | lia | omega)⟩⟩
  have Wk4 : ∀ (h : Heap) (i : Nat), St i h → ∃ o, h.get? I = some o := fun h i st => let ⟨o, e, _⟩ := Wk4' i h st; ⟨o, e⟩
  have hI3 : ∃ o, H3.get? I = some o := let ⟨o, e⟩ := Wk4 _ _ st0; ⟨o, keep3 _ _ e⟩
  clear hH3
  have hDf : D ∉ fp := fun hm => by have := ltN (hfp _ hm); (first | lia | omega)
  have hCf : D + 1 ∉ fp := fun hm => by have := ltN (hfp _ hm); (first | lia | omega)
  have freshD : ∀ b : Nat, D ≤ b → h₂.get? b = none := fun b hb => by
    cases e : h₂.get? b with
    | none => rfl
    | some o => have := ltN (lt2 e); (first | lia | omega)
  have hIlt : @LT.lt Nat _ I D := by have := ltN (hfp I (Wk.sub I (List.mem_singleton.mpr rfl))); (first | lia | omega)
  have hDI : D ∉ [I] := by rw [List.mem_singleton]; exact Nat.ne_of_gt hIlt
  have hCI : D + 1 ∉ [I] := by rw [List.mem_singleton]; exact Nat.ne_of_gt (Nat.lt_succ_of_lt hIlt)
  have freshS : ∀ b : Nat, D ≤ b → s.heap.get? b = none := fun b hb => by
    cases e : s.heap.get? b with
    | none => rfl
    | some o => have := k₂ b o e; rw [freshD b hb] at this; cases this
  have W2 : ∀ a ∈ D :: I :: W, a ∈ I :: W ∨ h₂.get? a = none := fun a ha => by
    rcases List.mem_cons.mp ha with rfl | ha
    · exact .inr (freshD _ (Nat.le_refl _))
    · exact .inl ha
  have WS : ∀ a ∈ D :: I :: W, a ∈ W ∨ s.heap.get? a = none := fun a ha => by
    rcases List.mem_cons.mp ha with rfl | ha
    · exact .inr (freshS _ (Nat.le_refl _))
    · rcases List.mem_cons.mp ha with rfl | ha
      · exact .inr hIn
      · exact .inl ha
  have hCD : ¬ (D + 1 = D) := by (first | lia | omega)
  have hfI : ∀ b ∈ fs, b ≠ I := fun b hb q => by
    subst q
    obtain ⟨o, es, n, ho, _⟩ := hfs b hb
    rw [hIn] at ho; cases ho
  have hfpf : ∀ b ∈ fp, b ∉ fs := fun b hb hm => by
    by_cases hbI : b = I
    · exact hfI b hm hbI
    · obtain ⟨o, e, ⟨its, n, hq⟩, _⟩ := hfps b hb hbI
      obtain ⟨o', es, n', ho', hd'⟩ := hfs b hm
      have := k₂ _ _ ho'
      rw [e] at this; cases this
      rw [hd'] at hq; cases hq
  -- the frame at a turn
  have frame : ∀ (h : Heap) (xi : V) (v : Value), KeepsW fs s.heap h → NameIs h (cenv1 scope env (D + 1) cl) x v → VRep (D :: I :: W) h xi v →
      ERep (D :: I :: W) h (cenv1 scope env (D + 1) cl) (relK scope.names kd) (compVars scope kd vars x xi) := fun h xi v hk hn hv => by
    refine ⟨hkind, R.gl, R.bl, relabel_names R.fn R.kd, fun y u hy => ?_⟩
    unfold compVars at hy
    rw [List.lookup_cons] at hy
    cases hyx : y == x with
    | true =>
      rw [hyx] at hy
      have := beq_iff_eq.mp hyx
      subst this
      cases hy
      exact ⟨v, hn, hv⟩
    | false =>
      rw [hyx] at hy
      dsimp only at hy
      rw [lookup_filter_key (capP scope kd) y vars] at hy
      cases hc : capP scope kd y with
      | false => rw [hc] at hy; simp at hy
      | true =>
        rw [hc, if_pos rfl] at hy
        unfold capP at hc
        simp only [Bool.and_eq_true, beq_iff_eq, Bool.not_eq_true', List.contains_eq_mem, decide_eq_false_iff_not] at hc
        obtain ⟨⟨hc1, hc2⟩, hc3⟩ := hc
        obtain ⟨val, hn', rv⟩ := R.vars y u hy
        refine ⟨val, .inr ⟨?_, ?_⟩, rv.mono WS fun b o _ e hq => hk.seq hfs e hq⟩
        · unfold Env.kindOf
          show (relabel scope env).names.lookup y = _
          rw [relabel_names R.fn R.kd, lookup_relK, hc1]
          simp [hc2]
        · rcases hn' with ⟨e', _⟩ | ⟨_, c, e', hcell⟩
          · unfold Env.kindOf at e'; rw [R.kd, hc2] at e'; cases e'
          · refine ⟨c, ?_, let ⟨o, e1, e2⟩ := hcell; ⟨o, hk.cell hfs e1 e2, e2⟩⟩
            show (cellsFrom _ scope.names cl).lookup y = _
            rw [cellsFrom_other _ _ _ (fun k hk => fun q => hc3 (q ▸ hk)), hcl2 y (mem_of_lookup hc1), e']
  have loop : ∀ tk, codeAny (model prog w) A (.compLoop (.ListComp elt [⟨.Name x px, iter, ifs, 0⟩] scope pos) 0 (.ref I) (.ref D) (cenv1 scope env (D + 1) cl))
      (compPost (model prog w) A E use Q (.ref D) (D + 1)) { s with heap := H3, toks := tk } := by
    intro tk
    refine codeAny_compLoop_tests (CInvW fs s h₂ xs test val W I D scope x cl St) ?_ (xs.length + 1)
      ⟨H3, tk, 0, #[], [], rfl, Nat.zero_le _, rfl, Wk.frame _ _ _ st0 (fun b _ o e => keep3 b o e), hat3, hD3, .nil, by simp, fun b o e _ _ => keep3 b o e, fun b o e _ => ⟨o.slots, keep3 b o e⟩, hI3, fun a ha => let ⟨o, e⟩ := hW a ha; ⟨o, keep3 _ _ (k₂ _ _ e)⟩⟩
    rintro k s' ⟨h', tk', i, items, ys, rfl, hi, rfl, hst, ⟨⟨m₀, hns⟩, hcell⟩, hpl, hys, hyeq, hk, hkf, ⟨oI', hIex⟩, hWx⟩
    by_cases hlt : i < xs.length
    · refine Wk.item i _ _ _ hlt hst fun v h4 tk4 hPv hst4 hk4 => ?_
      have exi : xs[i]? = some xs[i] := List.getElem?_eq_getElem hlt
      generalize hxi : xs[i] = xi at exi
      have rv := hP i v hPv xi exi
      have keep4 : ∀ b o, h₂.get? b = some o → b ≠ I → b ∉ fs → h4.get? b = some o := fun b o e hbI hbf => hk4 b o (by simpa using hbI) (hk b o e hbI hbf)
      have keepf4 : ∀ b o, h₂.get? b = some o → b ∈ fs → ∃ sl, h4.get? b = some { o with slots := sl } := fun b o e hbf => by
        obtain ⟨sl, hs⟩ := hkf b o e hbf
        exact ⟨sl, hk4 b _ (by rw [List.mem_singleton]; exact hfI b hbf) hs⟩
      have keepS4 : KeepsW fs s.heap h4 := ⟨fun b o e hbf => keep4 b o (k₂ b o e) (fun q => by subst q; rw [hIn] at e; cases e) hbf, fun b o e hbf => keepf4 b o (k₂ b o e) hbf⟩
      have hns4 : h4.Ns (D + 1) m₀ := hns.at' fun o e => hk4 _ o hCI e
      have hpl4 : h4.PlainList D items := by obtain ⟨n, e⟩ := hpl; exact ⟨n, hk4 _ _ hDI e⟩
      have hys4 : VReps (D :: I :: W) h4 ys items.toList := hys.mono (fun _ m => .inl m) fun b o hb e hs => hk4 b o (by
        intro hm
        rw [List.mem_singleton.mp hm] at hb
        simp at hb) e
      have rv4 : VRep (D :: I :: W) h4 xi v := rv.mono W2 fun b o hb e hq => keep4 b o e (fun q => by subst q; simp at hb) fun hm => by
        obtain ⟨o', es, n', ho', hd'⟩ := hfs b hm
        have := k₂ _ _ ho'
        rw [e] at this; cases this
        obtain ⟨its, n, hq⟩ := hq
        rw [hd'] at hq; cases hq
      have hI4 : ∃ o, h4.get? I = some o := Wk4 h4 (i + 1) hst4
      have hW4 : ∀ a ∈ W, ∃ o, h4.get? a = some o := fun a ha => let ⟨o, e⟩ := hW a ha; keepS4.ex e
      have hfs4 : KtsDicts fs h4 := keepS4.dicts hfs
      have turnOf : ∀ (h5 : Heap) (tk5 : Nat), NameIs h5 (cenv1 scope env (D + 1) cl) x v → CompAt h5 scope x (D + 1) cl → (∀ b o, (@LT.lt Nat _ b (D + 1) ∨ isSeqObj o) → h4.get? b = some o → h5.get? b = some o) →
          wpAny (model prog w) A (forIn ifs true fun c r => if r = true then do let ok ← isTrue c (cenv1 scope env (D + 1) cl) (eval c (cenv1 scope env (D + 1) cl)); pure (ForInStep.yield ok) else pure (ForInStep.yield r)) (fun ok s₃ =>
            if ok = true then wpAny (model prog w) A (eval elt (cenv1 scope env (D + 1) cl)) (fun y s₄ =>
              wpAny (model prog w) A (call (.builtin "list.append") [.ref D, y]) (fun _ s₅ => ∃ m, m < xs.length + 1 - i ∧ CInvW fs s h₂ xs test val W I D scope x cl St m s₅) (fun _ _ => False) s₄) (fun _ _ => False) s₃
            else ∃ m, m < xs.length + 1 - i ∧ CInvW fs s h₂ xs test val W I D scope x cl St m s₃) (fun _ _ => False) { s with heap := h5, toks := tk5 } := by
        intro h5 tk5 hname hat5 hk5
        have keep5 : ∀ b o, h₂.get? b = some o → b ≠ I → b ∉ fs → h5.get? b = some o := fun b o e hbI hbf => hk5 b o (.inl (Nat.lt_succ_of_lt (lt2 e))) (keep4 b o e hbI hbf)
        have keepf5 : ∀ b o, h₂.get? b = some o → b ∈ fs → ∃ sl, h5.get? b = some { o with slots := sl } := fun b o e hbf => by
          obtain ⟨sl, hs⟩ := keepf4 b o e hbf
          exact ⟨sl, hk5 b _ (.inl (Nat.lt_succ_of_lt (lt2 e))) hs⟩
        have keepS5 : KeepsW fs s.heap h5 := ⟨fun b o e hbf => keep5 b o (k₂ b o e) (fun q => by subst q; rw [hIn] at e; cases e) hbf, fun b o e hbf => keepf5 b o (k₂ b o e) hbf⟩
        have hfs5 : KtsDicts fs h5 := keepS5.dicts hfs
        have hI5 : ∃ o, h5.get? I = some o := let ⟨o, e⟩ := hI4; ⟨o, hk5 _ _ (.inl (Nat.lt_succ_of_lt hIlt)) e⟩
        have hpl5 : h5.PlainList D items := by obtain ⟨n, e⟩ := hpl4; exact ⟨n, hk5 _ _ (.inl (Nat.lt_succ_self _)) e⟩
        have hst5 : St (i + 1) h5 := Wk.frame _ _ _ hst4 fun b hb o e => hk5 b o (.inl (by have := ltN (hfp b hb); (first | lia | omega))) e
        have hseq : ∀ b o, b ∉ D :: I :: W → h4.get? b = some o → isSeqObj o → h5.get? b = some o := fun b o _ e hs => hk5 b o (.inr hs) e
        have hys5 : VReps (D :: I :: W) h5 ys items.toList := hys4.mono (fun _ m => .inl m) hseq
        have rv5 : VRep (D :: I :: W) h5 xi v := rv4.mono (fun _ m => .inl m) hseq
        have hW5 : ∀ a ∈ D :: I :: W, ∃ o, h5.get? a = some o := fun a ha => by
          rcases List.mem_cons.mp ha with rfl | ha
          · obtain ⟨n, e⟩ := hpl5; exact ⟨_, e⟩
          · rcases List.mem_cons.mp ha with rfl | ha
            · exact hI5
            · obtain ⟨o, e⟩ := hW a ha; exact keepS5.ex e
        have next : ∀ (h7 : Heap) (tk7 : Nat) (items' : Array Value) (ys' : List V), (∀ b o, b ≠ D → b ∉ fs → h5.get? b = some o → h7.get? b = some o) → (∀ b o, h5.get? b = some o → b ∈ fs → ∃ sl, h7.get? b = some { o with slots := sl }) → h7.PlainList D items' → VReps (D :: I :: W) h7 ys' items'.toList →
            ys' = ((xs.take (i + 1)).filter test).map val → ∃ m, m < xs.length + 1 - i ∧ CInvW fs s h₂ xs test val W I D scope x cl St m { s with heap := h7, toks := tk7 } := by
          intro h7 tk7 items' ys' k57 kf57 hpl7 hys7 hyeq7
          have ltF : ∀ b ∈ fs, @LT.lt Nat _ b D := fun b hb => by
            obtain ⟨o, es, n, ho, _⟩ := hfs b hb
            exact lt2 (k₂ _ _ ho)
          refine ⟨xs.length + 1 - (i + 1), by (first | lia | omega), h7, tk7, i + 1, items', ys', rfl, hlt, rfl, Wk.frame _ _ _ hst5 (fun b hb o e => k57 b o (fun q => hDf (q ▸ hb)) (hfpf b hb) e), ⟨?_, ?_⟩, hpl7, hys7, hyeq7, ?_, ?_, ?_, ?_⟩
          · obtain ⟨m, hm⟩ := hat5.ns
            exact ⟨m, hm.at' fun o e => k57 _ o (Nat.succ_ne_self D) (fun hm => by have := ltF _ hm; (first | lia | omega)) e⟩
          · intro hc
            obtain ⟨c, v', a, ⟨o, e1, e2⟩, b⟩ := hat5.cell hc
            exact ⟨c, v', a, ⟨o, k57 _ _ (fun q => by subst q; exact absurd (ltN b) (by (first | lia | omega))) (fun hm => by have := ltF _ hm; have := ltN b; (first | lia | omega)) e1, e2⟩, b⟩
          · intro b o e hbI hbf
            exact k57 b o (fun q => by subst q; exact absurd (ltN (lt2 e)) (Nat.lt_irrefl _)) hbf (keep5 b o e hbI hbf)
          · intro b o e hbf
            obtain ⟨sl, hs⟩ := keepf5 b o e hbf
            obtain ⟨sl', hs'⟩ := kf57 b _ hs hbf
            exact ⟨sl', hs'⟩
          · obtain ⟨o, e⟩ := hI5
            exact ⟨o, k57 _ _ (Nat.ne_of_lt hIlt) (fun hm => hfI I hm rfl) e⟩
          · intro a ha
            obtain ⟨o, e⟩ := hW a ha
            by_cases haf : a ∈ fs
            · obtain ⟨sl, hs⟩ := keepS5.frame a o e haf
              obtain ⟨sl', hs'⟩ := kf57 a _ hs haf
              exact ⟨_, hs'⟩
            · exact ⟨o, k57 _ _ (fun q => by subst q; exact absurd (ltN (lt2 (k₂ _ _ e))) (Nat.lt_irrefl _)) haf (keepS5.other _ _ e haf)⟩
        have take1 : xs.take (i + 1) = xs.take i ++ [xi] := by rw [List.take_add_one, exi]; rfl
        refine (turnT i xi exi (D :: I :: W) { s with heap := h5, toks := tk5 } _ keepS5 hW5 (frame h5 xi v keepS5 hname rv5)).bindQ fun h6 tk6 k6 => ?_
        have hpl6 : h6.PlainList D items := by obtain ⟨n, e⟩ := hpl5; exact ⟨n, k6 _ _ e⟩
        cases ht : test xi with
        | false =>
          simp only [Bool.false_eq_true, if_false]
          refine next h6 tk6 items ys (fun b o _ _ e => k6 b o e) (fun b o e _ => ⟨o.slots, k6 b o e⟩) hpl6 (hys5.keeps k6) ?_
          rw [take1, List.filter_append, hyeq]
          simp [ht]
        | true =>
          simp only [if_true]
          have hfs6 : KtsDicts fs h6 := (KeepsW.of k6).dicts hfs5
          refine wpAny_mono (turnE i xi exi ht (D :: I :: W) { s with heap := h6, toks := tk6 } _ (keepS5.trans (KeepsW.of k6)) (fun a ha => let ⟨o, e⟩ := hW5 a ha; ⟨o, k6 _ _ e⟩) ((frame h5 xi v keepS5 hname rv5).keeps k6)) (fun y s7 ⟨h7, tk7, es7, k7, ry⟩ => ?_) fun _ _ f => f.elim
          subst es7
          have hpl7 : h7.PlainList D items := by obtain ⟨n, e⟩ := hpl6; exact ⟨n, k7.seq hfs6 e ⟨_, _, rfl⟩⟩
          have hys7 : VReps (D :: I :: W) h7 ys items.toList := (hys5.keeps k6).mono (fun _ m => .inl m) fun b o _ e hq => k7.seq hfs6 e hq
          have hsz : items.size ≤ sizeLine := by
            have := hys7.length
            rw [Array.length_toList, hyeq, List.length_map] at this
            have h9 := List.length_filter_le test (xs.take i)
            have h10 := List.length_take_le i xs
            rw [sizeLine_eq, this]; (first | lia | omega)
          refine wpAny_list_append_plain (s := { s with heap := h7, toks := tk7 }) (hsz := hsz) hpl7 fun h8 hpl8 hs8 => ?_
          have hDfs : D ∉ fs := fun hm => by
            obtain ⟨o, es, n, ho, _⟩ := hfs D hm
            exact absurd (ltN (lt2 (k₂ _ _ ho))) (Nat.lt_irrefl _)
          refine next h8 tk7 (items.push y) (ys ++ [val xi]) (fun b o hb hbf e => hs8.extBut b o hb (k7.other b o (k6 b o e) hbf)) (fun b o e hbf => ?_) hpl8 ?_ ?_
          · obtain ⟨sl, hs⟩ := k7.frame b o (k6 b o e) hbf
            exact ⟨sl, hs8.extBut b _ (fun q => hDfs (q ▸ hbf)) hs⟩
          · rw [Array.toList_push]
            exact (hys7.append (.one ry)).mono (fun _ m => .inl m) fun b o hb e _ => hs8.extBut b o (fun q => by subst q; simp at hb) e
          · rw [take1, List.filter_append, hyeq]
            simp [ht]
      have hkindE : (cenv1 scope env (D + 1) cl).scope.kind = .function := hkind
      have kindx : ∀ k, scope.names.lookup x = some k → k ≠ .free → (cenv1 scope env (D + 1) cl).kindOf x = some k := fun k hk hne => by
        unfold Env.kindOf
        show (relabel scope env).names.lookup x = _
        rw [relabel_names R.fn R.kd, lookup_relK, hk]
        cases k <;> first | rfl | exact absurd rfl hne
      rcases hx with hx | ⟨hx, _⟩
      · refine wpAny_assign_Name (wpAny_storeName_local (kindx _ hx (by decide)) hns4 (fun h5 hn5 hs5 => convE (turnOf h5 _ (.inl ⟨kindx _ hx (by decide), _, hn5, by simp⟩) ⟨⟨_, hn5⟩, fun hc => by rw [hx] at hc; cases hc⟩ ?_)) (by rw [hkindE]; rfl))
        intro b o hb e
        refine hs5.extBut b o ?_ e
        rintro rfl
        rcases hb with hb | ⟨its, n, hb⟩
        · exact Nat.lt_irrefl _ hb
        · obtain ⟨o', es, ep, e1, e2, _⟩ := hns4
          have : o = o' := Option.some.inj (e.symm.trans e1)
          subst this
          rw [e2] at hb; cases hb
      · obtain ⟨c, v₀, hc1, ⟨oc, hc2, hc3⟩, hc4⟩ := hcell hx
        have hc4' : h4.IsCell c v₀ := ⟨oc, hk4 _ _ (by rw [List.mem_singleton]; rintro rfl; exact absurd (ltN hc4) (by (first | lia | omega))) hc2, hc3⟩
        refine wpAny_assign_Name (wpAny_storeName_cell hkindE (kindx _ hx (by decide)) hc1 hc4' (fun h5 hc5 hs5 => convE (turnOf h5 _ (.inr ⟨kindx _ hx (by decide), c, hc1, hc5⟩) ⟨⟨_, hns4.sameBut hs5 (Nat.ne_of_lt hc4)⟩, fun _ => ⟨c, _, hc1, hc5, hc4⟩⟩ ?_)))
        intro b o hb e
        refine hs5.extBut b o ?_ e
        rintro rfl
        rcases hb with hb | ⟨its, n, hb⟩
        · exact absurd (ltN hc4) (by (first | lia | omega))
        · obtain ⟨o', e1, e2⟩ := hc4'
          have : o = o' := Option.some.inj (e.symm.trans e1)
          subst this
          rw [e2] at hb; cases hb
    · have hin : i = xs.length := Nat.le_antisymm hi (Nat.not_lt.mp hlt)
      subst hin
      refine Wk.done _ _ _ hst fun h4 tk4 hk4 => ?_
      have hns4 : h4.Ns (D + 1) m₀ := hns.at' fun o e => hk4 _ o hCI e
      refine fin (D + 1) D h4 tk4 m₀ ⟨fun b o e hbf => ?_, fun b o e hbf => ?_⟩ hns4 (freshS _ (Nat.le_succ D)) (freshS _ (Nat.le_refl _)) ?_
      · refine hk4 b o ?_ (hk b o (k₂ b o e) ?_ hbf)
        · rw [List.mem_singleton]; rintro rfl; rw [hIn] at e; cases e
        · rintro rfl; rw [hIn] at e; cases e
      · obtain ⟨sl, hs⟩ := hkf b o (k₂ b o e) hbf
        exact ⟨sl, hk4 b _ (by rw [List.mem_singleton]; exact hfI b hbf) hs⟩
      · rw [List.take_length] at hyeq
        have hpl5 : h4.PlainList D items := by
          obtain ⟨n, e⟩ := hpl
          exact ⟨n, hk4 _ _ hDI e⟩
        have hle : ys.length ≤ 2 ^ 20 := by
          rw [hyeq, List.length_map]; exact Nat.le_trans (List.length_filter_le _ _) hlen
        have hDW : D ∉ W := fun m => by obtain ⟨o, e⟩ := hW _ m; rw [freshS D (Nat.le_refl _)] at e; cases e
        rw [← hyeq]
        refine .list hle hDW hpl5 (hys.mono (fun a m => .inl (List.mem_cons_of_mem _ (List.mem_cons_of_mem _ m))) fun b o hb e hs => hk4 b o ?_ e)
        rw [List.mem_singleton]; rintro rfl; simp at hb
  exact codeAny_compStart_list (loop _) (Wk.self 0 _ _ _ (Wk.frame _ _ _ st0 (fun b _ o e => keep3 b o e)) (loop _))

theorem comp_core {W : List Addr} {env : Env} {kd : List (Str × NameKind)} {vars : Vars} {elt iter : Expr} {x : Str} {px : Pos} {ifs : List Expr} {scope : Scope} {pos : Pos} (xs : List V) (test : V → Bool) (val : V → V)
    (R : ERep W s.heap env kd vars) (hW : ∀ a ∈ W, ∃ o, s.heap.get? a = some o) (hkind : scope.kind = .function)
    (hnames : ∀ y ∈ scope.names, y.2 = .local → scope.names.lookup y.1 = some .local)
    (hx : scope.names.lookup x = some .local ∨ (scope.names.lookup x = some .cell ∧ (x, NameKind.cell) ∈ scope.names))
    (hfree : ∀ n, (n, NameKind.free) ∈ scope.names → kd.lookup n = some .cell ∧ (vars.lookup n).isSome = true)
    (hset : ∀ v, foldedSetIterable iter env v = pure v) (src : Src prog w A W s (eval iter env) xs)
    (turnT : ∀ (i : Nat) xi, xs[i]? = some xi → ∀ (W' : List Addr) (s₃ : Shared) (cenv : Env), KeepsH s.heap s₃.heap → (∀ a ∈ W', ∃ o, s₃.heap.get? a = some o) → ERep W' s₃.heap cenv (relK scope.names kd) (compVars scope kd vars x xi) →
      GvB prog w A s₃ (forIn ifs true fun c r => if r = true then do let ok ← isTrue c cenv (eval c cenv); pure (ForInStep.yield ok) else pure (ForInStep.yield r)) (test xi))
    (turnE : ∀ (i : Nat) xi, xs[i]? = some xi → test xi = true → ∀ (W' : List Addr) (s₃ : Shared) (cenv : Env), KeepsH s.heap s₃.heap → (∀ a ∈ W', ∃ o, s₃.heap.get? a = some o) → ERep W' s₃.heap cenv (relK scope.names kd) (compVars scope kd vars x xi) →
      Gv prog w A W' s₃ (eval elt cenv) (val xi))
    (hlen : xs.length ≤ 2 ^ 20) {use : Option (Value → Sem Unit)} {Q : Value → Shared → Prop} {E : Value → Shared → Prop}
    (fin : ∀ (C D : Nat) (h4 : Heap) (tk4 : Nat) (m₀ : Str → Option Value), KeepsH s.heap h4 → h4.Ns C m₀ → s.heap.get? C = none → s.heap.get? D = none → VRep W h4 (.list ((xs.filter test).map val)) (.ref D) →
      compPost (model prog w) A E use Q (.ref D) C (.ok .next) { s with heap := h4, toks := tk4 }) :
    wpAny (model prog w) A (comprehension (.ListComp elt [⟨.Name x px, iter, ifs, 0⟩] scope pos) scope env (firstIterPos [⟨.Name x px, iter, ifs, 0⟩] pos) (newList []) false (eval iter env) use) Q E s := by
  exact comp_coreT (fs := []) xs test val R hW hkind hnames hx hfree hset src (fun _ h => nomatch h) (fun i xi h W' s₃ cenv k => turnT i xi h W' s₃ cenv k.keepsH)
    (fun i xi h ht W' s₃ cenv k a b => wpAny_mono (turnE i xi h ht W' s₃ cenv k.keepsH a b) (fun _ _ ⟨h', tk', e, k', r⟩ => ⟨h', tk', e, .of k', r⟩) fun _ _ f => f)
    hlen fun C D h4 tk4 m₀ k => fin C D h4 tk4 m₀ k.keepsH

theorem VRep.but {W : List Addr} {h h' : Heap} {C : Addr} {m : Str → Option Value} {v : V} {x : Value} (hn : h.Ns C m) (hs : Heap.SameBut C h h') (r : VRep W h v x) : VRep W h' v x :=
  r.mono (fun _ m => .inl m) fun b o _ e hq => hs.extBut b o (fun q => by
    subst q
    obtain ⟨o', es, ep, e1, e2, _⟩ := hn
    obtain ⟨its, n, hs⟩ := hq
    have : o = o' := Option.some.inj (e.symm.trans e1)
    subst this
    rw [e2] at hs; cases hs) e

end
end Mine
namespace Mine

/-! sources -/
noncomputable def signsV (x : Str) : List V := x.cps.toList.map fun c => .str ⟨#[c]⟩
noncomputable def itemsV : V → Option (List V)
  | .list xs => some xs
  | .str x => some (signsV x)
  | _ => none
noncomputable def rangeN (a b c : Int) : Nat := (Builtin.Range.rangeSize a b c).toNat
noncomputable def rangeVs (a b c : Int) : List V := (List.range (rangeN a b c)).map fun (i : Nat) => .int (a + (i : Int) * c)
noncomputable def okR (a b c : Int) : Bool := decide (-(2 ^ 20) ≤ a) && decide (a ≤ 2 ^ 20) && decide (-(2 ^ 20) ≤ b) && decide (b ≤ 2 ^ 20) && decide (1 ≤ c) && decide (c ≤ 2 ^ 20) && decide (rangeN a b c ≤ 2 ^ 20)
noncomputable def rangeV : List V → Option (List V)
  | [.int b] => if okR 0 b 1 then some (rangeVs 0 b 1) else none
  | [.int a, .int b] => if okR a b 1 then some (rangeVs a b 1) else none
  | [.int a, .int b, .int c] => if okR a b c then some (rangeVs a b c) else none
  | _ => none
theorem okR_small {a b c : Int} (h : okR a b c = true) : Builtin.Range.small a b c = true ∧ Builtin.Range.rangeSize a b c = (rangeN a b c : Int) ∧ rangeN a b c ≤ 2 ^ 20 ∧ 1 ≤ c ∧ c ≤ 2 ^ 20 := by
  unfold okR at h
  simp only [Bool.and_eq_true, decide_eq_true_eq] at h
  obtain ⟨⟨⟨⟨⟨⟨h1, h2⟩, h3⟩, h4⟩, h5⟩, h6⟩, h7⟩ := h
  have h0 : 0 ≤ Builtin.Range.rangeSize a b c := by
    unfold Builtin.Range.rangeSize
    split
    · split
      · have : 0 ≤ (b - a - 1) / c := Int.ediv_nonneg (by (first | lia | omega)) (by (first | lia | omega))
        (first | lia | omega)
      · (first | lia | omega)
    · (first | lia | omega)
  have hn : Builtin.Range.rangeSize a b c = (rangeN a b c : Int) := (Int.toNat_of_nonneg h0).symm
  refine ⟨?_, hn, h7, h5, h6⟩
  unfold Builtin.Range.small Builtin.Range.rangeFitsLong
  rw [hn]
  have : c > 0 := by (first | lia | omega)
  simp only [this, if_true, Bool.and_eq_true, Bool.or_eq_true, beq_iff_eq, decide_eq_true_eq]
  refine ⟨⟨⟨⟨?_, ?_⟩, ?_⟩, ?_⟩, .inr ?_⟩ <;> (constructor <;> (first | lia | omega))

theorem VReps.of_get {W : List Addr} {h : Heap} : ∀ {vs : List V} {xs : List Value}, vs.length = xs.length → (∀ (j : Nat) (v : V) (x : Value), vs[j]? = some v → xs[j]? = some x → VRep W h v x) → VReps W h vs xs
  | [], [], _, _ => .nil
  | v :: vs, x :: xs, hl, hh => .cons (hh 0 v x rfl rfl) (VReps.of_get (by simpa using hl) fun j v x a b => hh (j + 1) v x (by simpa using a) (by simpa using b))

section
variable {prog : Program} {w : World} {A : Around} {W : List Addr} {s : Shared}

theorem src_val (hh : A.handled = none) {t : Sem Value} {v : V} {xs : List V} (e : itemsV v = some xs) (hW : ∀ a ∈ W, ∃ o, s.heap.get? a = some o) (g : Gv prog w A W s t v) : Src prog w A W s t xs := by
  refine wpAny_mono g (fun xv s₁ h => ?_) fun _ _ f => f.elim
  obtain ⟨h', tk', rfl, k, r⟩ := h
  unfold itemsV at e
  split at e
  · cases e
    obtain ⟨hle, a, ia, rfl, haW, pa, ra⟩ := r.toList
    have hla : a < h'.objs.size := by obtain ⟨_, e⟩ := pa; exact Heap.lt_size e
    have hn := ra.length
    rw [Array.length_toList] at hn
    refine wpAny_pyIter_list (PlainList.isList pa) ⟨_, [h'.objs.size, a], _, _, rfl, ⟨_, _, rfl⟩, fun b o e => Heap.get?_push_of_some _ (k b o e), ?_, hn ▸ Walks.list hh h'.objs.size a (Nat.ne_of_lt hla) ia,
      ⟨⟨_, Heap.get?_push_size _ rfl, rfl, rfl⟩, (PlainList.isList pa).push _⟩, ?_, ?_, ?_, ?_⟩
    · cases e : s.heap.get? h'.objs.size with
      | none => rfl
      | some o => exact absurd (Heap.lt_size (k _ _ e)) (Nat.lt_irrefl _)
    · intro b hb
      show b < (h'.push _).objs.size
      rw [Heap.size_push]
      rcases List.mem_cons.mp hb with rfl | hb
      · exact Nat.lt_succ_self _
      · rw [List.mem_singleton.mp hb]; exact Nat.lt_succ_of_lt hla
    · intro b hb hbI
      rcases List.mem_cons.mp hb with rfl | hb
      · exact absurd rfl hbI
      · rw [List.mem_singleton.mp hb]
        obtain ⟨n, e⟩ := pa
        exact ⟨_, Heap.get?_push_of_some _ e, ⟨_, _, rfl⟩, haW⟩
    · rintro i h ⟨⟨o, e1, e2, e3⟩, _⟩
      exact ⟨o, e1, by rintro ⟨its, n, e⟩; rw [e3] at e; cases e⟩
    · obtain ⟨L, hL, hR⟩ := ra.supp
      refine ⟨L, fun q hq => ?_, fun i v hv x hx h2 W2 k => ?_⟩
      · obtain ⟨a1, a2, a3⟩ := hL q hq
        refine ⟨Heap.get?_push_of_some _ a1, a2, fun m => ?_⟩
        rcases List.mem_cons.mp m with m | m
        · rw [m] at a1; exact absurd (Heap.lt_size a1) (Nat.lt_irrefl _)
        · exact a3 m
      · obtain ⟨y, ey, ry⟩ := (hR h2 W2 k).get hx
        rw [Array.getElem?_toList] at ey
        rw [ey] at hv; cases hv
        exact ry
  · rename_i x
    cases e
    obtain ⟨hl, t, rfl⟩ := r.toStr
    have hfresh : s.heap.get? h'.objs.size = none := by
      cases e : s.heap.get? h'.objs.size with
      | none => rfl
      | some o => exact absurd (Heap.lt_size (k _ _ e)) (Nat.lt_irrefl _)
    have hsign : ∀ (h : Heap), ∃ L, OkL (h'.objs.size :: W) h L ∧ ∀ (i : Nat) v, SignAt x i v → ∀ y, (signsV x)[i]? = some y → ∀ h' W', OkL W' h' L → VRep W' h' y v := by
      intro h
      refine ⟨[], (fun _ m => (by cases m)), ?_⟩
      rintro i v ⟨c, u, hc, rfl⟩ y hy _ _ _
      unfold signsV at hy
      rw [List.getElem?_map, Array.getElem?_toList, hc] at hy
      cases hy
      exact .str (by show (1:Nat) ≤ _; decide)
    have hlen : x.cps.size = (signsV x).length := by unfold signsV; simp
    cases ha : x.cps.all (· < 128)
    · refine wpAny_pyIter_wide ha ⟨_, [h'.objs.size], _, _, rfl, ⟨_, _, rfl⟩, fun b o e => Heap.get?_push_of_some _ (k b o e), hfresh, hlen ▸ Walks.strWide hh _ x t, ⟨_, Heap.get?_push_size _ rfl, rfl, rfl⟩, ?_, ?_, ?_, hsign _⟩
      · intro b hb; rw [List.mem_singleton.mp hb]; show _ < (h'.push _).objs.size; rw [Heap.size_push]; exact Nat.lt_succ_self _
      · intro b hb hbI; exact absurd (List.mem_singleton.mp hb) hbI
      · rintro i h ⟨o, e1, e2, e3⟩
        exact ⟨o, e1, by rintro ⟨its, n, e⟩; rw [e3] at e; cases e⟩
    · refine wpAny_pyIter_ascii ha ⟨_, [h'.objs.size], _, _, rfl, ⟨_, _, rfl⟩, fun b o e => Heap.get?_push_of_some _ (k b o e), hfresh, hlen ▸ Walks.strAscii hh _ x t, ⟨_, Heap.get?_push_size _ rfl, rfl, rfl⟩, ?_, ?_, ?_, hsign _⟩
      · intro b hb; rw [List.mem_singleton.mp hb]; show _ < (h'.push _).objs.size; rw [Heap.size_push]; exact Nat.lt_succ_self _
      · intro b hb hbI; exact absurd (List.mem_singleton.mp hb) hbI
      · rintro i h ⟨o, e1, e2, e3⟩
        exact ⟨o, e1, by rintro ⟨its, n, e⟩; rw [e3] at e; cases e⟩
  · cases e

/-- a range object just made -/
theorem src_range (hh : A.handled = none) {r : Addr} {a b c : Int} {t u v : Tok} {h' : Heap} {tk' : Nat} (k : KeepsH s.heap h') (ok : okR a b c = true) (hr : IsRange h' r a b c t u v) :
    wpAny (model prog w) A (pyIter (.ref r)) (fun it s₂ => ∃ I fp P St, it = .ref I ∧ (∃ h₂ tk₂, s₂ = { s with heap := h₂, toks := tk₂ }) ∧ KeepsH s.heap s₂.heap ∧ s.heap.get? I = none ∧
    Walks prog w A I fp [I] (rangeVs a b c).length P St ∧ St 0 s₂.heap ∧ (∀ b ∈ fp, b < s₂.heap.objs.size) ∧ (∀ b ∈ fp, b ≠ I → ∃ o, s₂.heap.get? b = some o ∧ isSeqObj o ∧ b ∉ W) ∧ (∀ i h, St i h → ∃ o, h.get? I = some o ∧ ¬ isSeqObj o) ∧
    (∃ L, OkL (I :: W) s₂.heap L ∧ ∀ (i : Nat) v, P i v → ∀ x, (rangeVs a b c)[i]? = some x → ∀ h' W', OkL W' h' L → VRep W' h' x v)) (fun _ _ => False) { s with heap := h', toks := tk' } := by
  obtain ⟨hs, hn, hle, _⟩ := okR_small ok
  have hlen : (rangeVs a b c).length = rangeN a b c := by unfold rangeVs; simp
  rw [hlen]
  refine wpAny_pyIter_range hr hs ⟨_, [h'.objs.size], _, _, rfl, ⟨_, _, rfl⟩, fun b o e => Heap.get?_push_of_some _ (k b o e), ?_, Walks.range hh _ a c _, ?_, ?_, ?_, ?_, ?_⟩
  · cases e : s.heap.get? h'.objs.size with
    | none => rfl
    | some o => exact absurd (Heap.lt_size (k _ _ e)) (Nat.lt_irrefl _)
  · show IsRangeIter _ _ _ _ _
    rw [hn]
    simpa using Heap.get?_push_size _ rfl
  · intro b hb; rw [List.mem_singleton.mp hb]; show _ < (h'.push _).objs.size; rw [Heap.size_push]; exact Nat.lt_succ_self _
  · intro b hb hbI; exact absurd (List.mem_singleton.mp hb) hbI
  · rintro i h e1
    exact ⟨_, e1, by rintro ⟨its, n, e⟩; cases e⟩
  · refine ⟨[], (fun _ m => (by cases m)), ?_⟩
    rintro i v ⟨t, rfl⟩ x hx _ _ _
    unfold rangeVs at hx
    rw [List.getElem?_map] at hx
    by_cases hi : i < rangeN a b c
    · rw [List.getElem?_range hi] at hx
      cases hx
      exact .int
    · rw [List.getElem?_eq_none (by simpa using hi)] at hx; cases hx

/-- list(range(..)) -/
theorem list_of_range (hh : A.handled = none) {r : Addr} {a b c : Int} {t u v : Tok} (hW : ∀ a ∈ W, ∃ o, s.heap.get? a = some o) (ok : okR a b c = true) (hr : IsRange s.heap r a b c t u v) :
    Gv prog w A W s (call (.type "list") [.ref r]) (.list (rangeVs a b c)) := by
  obtain ⟨hs, hn, hle, _⟩ := okR_small ok
  refine call_list_range hh hr hs hn (by (first | lia | omega)) fun h' tk acc' c' hk hD hI => ⟨h', tk, rfl, hk, .list (by unfold rangeVs; simpa using hle) (fresh_notin hW) ⟨_, hD⟩ ?_⟩
  refine .of_get (by unfold rangeVs; simp [hI.1]) fun j v x hv hx => ?_
  obtain ⟨t, rfl⟩ := hI.2 j x (by simpa using hx)
  unfold rangeVs at hv
  rw [List.getElem?_map] at hv
  by_cases hi : j < rangeN a b c
  · rw [List.getElem?_range hi] at hv; cases hv; exact .int
  · rw [List.getElem?_eq_none (by simpa using hi)] at hv; cases hv
end
end Mine
namespace Mine

structure Cfg where
  gconst : Str → Option Int
  gdict : Str → Option (List (Str × Int))
  fn : Str → Option Addr
  phi : Str → List V → Option V

noncomputable abbrev Kd := List (Str × NameKind)
noncomputable abbrev EvTy := Bool → Kd → Vars → Expr → Option V
noncomputable def notStar : Expr → Bool
  | .Starred .. => false
  | _ => true
noncomputable def notSet : Expr → Bool
  | .Set .. => false
  | _ => true
noncomputable def notCall : Expr → Bool
  | .Call .. => false
  | _ => true
noncomputable def isGlob (kd : Kd) (vars : Vars) (x : Str) : Bool := (vars.lookup x).isNone && kd.lookup x == some .globalImplicit
noncomputable def evArgs (ih : EvTy) (kd : Kd) (vars : Vars) : List Expr → Option (List V)
  | [] => some []
  | e :: r => if notStar e = true then (ih false kd vars e).bind fun v => (evArgs ih kd vars r).bind fun vs => some (v :: vs) else none
noncomputable def evPart (ih : EvTy) (kd : Kd) (vars : Vars) : Option Expr → Option V
  | none => some .none
  | some e => ih false kd vars e
noncomputable def constV : Const → Option V
  | .none => some .none
  | .bool b => some (.bool b)
  | .int i => some (.int i)
  | .str x => if x.length ≤ 2 ^ 20 then some (.str x) else none
  | _ => none
noncomputable def constE? : Expr → Option Const
  | .Constant c _ _ => some c
  | _ => none
noncomputable def strC? : Const → Option Str
  | .str x => some x
  | _ => none
noncomputable def intC? : Const → Option Int
  | .int i => some i
  | _ => none
noncomputable def nameE? : Expr → Option Str
  | .Name x _ => some x
  | _ => none
noncomputable def dictOf? (C : Cfg) (kd : Kd) (vars : Vars) (e : Expr) : Option (List (Str × Int)) := (nameE? e).bind fun d => if isGlob kd vars d = true then C.gdict d else none
noncomputable def dispE? : Expr → Option (List (Option Expr) × List Expr)
  | .Dict ks vs _ => some (ks, vs)
  | _ => none
noncomputable def sliceE? : Expr → Option (Option Expr × Option Expr × Option Expr)
  | .Slice lo hi st _ => some (lo, hi, st)
  | _ => none
noncomputable def attrE? : Expr → Option (Expr × Str × Pos)
  | .Attribute o m p => some (o, m, p)
  | _ => none
noncomputable def tupE? : Expr → Option (List Expr)
  | .Tuple es _ _ => some es
  | _ => none
noncomputable def negE? : Expr → Option (UnaryOp × Expr)
  | .UnaryOp op x _ => some (op, x)
  | _ => none
noncomputable def boolE? : Expr → Option (BoolOp × List Expr)
  | .BoolOp op es _ => some (op, es)
  | _ => none
noncomputable def isIfE : Expr → Bool
  | .IfExp .. => true
  | _ => false
theorem constE?_some {e : Expr} {c : Const} (h : constE? e = some c) : ∃ k p, e = .Constant c k p := by
  cases e <;> first | (cases h; exact ⟨_, _, rfl⟩) | cases h
theorem nameE?_some {e : Expr} {c : Str} (h : nameE? e = some c) : ∃ p, e = .Name c p := by
  cases e <;> first | (cases h; exact ⟨_, rfl⟩) | cases h
theorem dispE?_some {e : Expr} {c : List (Option Expr) × List Expr} (h : dispE? e = some c) : ∃ p, e = .Dict c.1 c.2 p := by
  cases e <;> first | (cases h; exact ⟨_, rfl⟩) | cases h
theorem sliceE?_some {e : Expr} {c : Option Expr × Option Expr × Option Expr} (h : sliceE? e = some c) : ∃ p, e = .Slice c.1 c.2.1 c.2.2 p := by
  cases e <;> first | (cases h; exact ⟨_, rfl⟩) | cases h
theorem attrE?_some {e : Expr} {c : Expr × Str × Pos} (h : attrE? e = some c) : e = .Attribute c.1 c.2.1 c.2.2 := by
  cases e <;> first | (cases h; rfl) | cases h
theorem tupE?_some {e : Expr} {c : List Expr} (h : tupE? e = some c) : ∃ k p, e = .Tuple c k p := by
  cases e <;> first | (cases h; exact ⟨_, _, rfl⟩) | cases h
theorem negE?_some {e : Expr} {c : UnaryOp × Expr} (h : negE? e = some c) : ∃ p, e = .UnaryOp c.1 c.2 p := by
  cases e <;> first | (cases h; exact ⟨_, rfl⟩) | cases h
theorem boolE?_some {e : Expr} {c : BoolOp × List Expr} (h : boolE? e = some c) : ∃ p, e = .BoolOp c.1 c.2 p := by
  cases e <;> first | (cases h; exact ⟨_, rfl⟩) | cases h
theorem strC?_some {e : Const} {c : Str} (h : strC? e = some c) : e = .str c := by
  cases e <;> first | (cases h; rfl) | cases h
theorem intC?_some {e : Const} {c : Int} (h : intC? e = some c) : e = .int c := by
  cases e <;> first | (cases h; rfl) | cases h
/-- a display of written texts and ints -/
noncomputable def dispOf : List (Option Expr) → List Expr → Option (List (Str × Int))
  | [], vs => if vs.isEmpty = true then some [] else none
  | k :: ks, vs => (vs.head?).bind fun v => k.bind fun k => ((constE? k).bind strC?).bind fun x => ((constE? v).bind intC?).bind fun i => (dispOf ks vs.tail).map ((x, i) :: ·)
noncomputable def evIter (ih : EvTy) (kd : Kd) (vars : Vars) (e : Expr) : Option (List V) :=
  match e with
  | .Call (.Name r _) args [] _ => if isGlob kd vars r = true ∧ r = "range" then (if args.length ≤ 3 then (evArgs ih kd vars args).bind rangeV else none) else (ih false kd vars e).bind itemsV
  | _ => (ih false kd vars e).bind itemsV
noncomputable def compV (f : V → Option (Option V)) : List V → Option (List V)
  | [] => some []
  | x :: xs => (f x).bind fun r => (compV f xs).bind fun ys => some (match r with | some y => y :: ys | none => ys)
noncomputable def scopeOk (scope : Scope) (kd : Kd) (vars : Vars) : Bool :=
  scope.kind == .function && (scope.names.all fun p => p.2 != .local || scope.names.lookup p.1 == some .local) &&
  (scope.names.all fun p => p.2 != .free || (kd.lookup p.1 == some .cell && (vars.lookup p.1).isSome)) && (scope.names.lookup ("__debug__" : Str)).isNone
noncomputable def varOk (scope : Scope) (x : Str) : Bool := scope.names.lookup x == some .local || (scope.names.lookup x == some .cell && scope.names.contains (x, NameKind.cell))
noncomputable def evComp (ih : EvTy) (kd : Kd) (vars : Vars) (elt : Expr) (x : Str) (iter : Expr) (ifs : List Expr) (scope : Scope) : Option V :=
  if scopeOk scope kd vars = true ∧ varOk scope x = true ∧ notSet iter = true then
    (evIter ih kd vars iter).bind fun xs => if xs.length ≤ 2 ^ 20 then
      (compV (fun xi => match ifs with
        | [] => (ih false (relK scope.names kd) (compVars scope kd vars x xi) elt).map some
        | [c] => (ih true (relK scope.names kd) (compVars scope kd vars x xi) c).bind fun b => match b with
          | .bool true => (ih false (relK scope.names kd) (compVars scope kd vars x xi) elt).map some
          | .bool false => some none
          | _ => none
        | _ => none) xs).map .list
      else none
  else none

noncomputable def pairV : List V → Option (List V)
  | [] => some []
  | .tup [_, v] :: xs => (pairV xs).bind fun ys => some (v :: ys)
  | _ => none
noncomputable def pairOk (scope : Scope) (y a b : Str) : Bool :=
  scope.kind == .function && (scope.names.all fun p => p.2 == .local && scope.names.lookup p.1 == some .local) && scope.names.lookup a == some .local && scope.names.lookup b == some .local && !(a == b) && y == b && !(b == ("__debug__" : Str))
noncomputable def evPair (ih : EvTy) (kd : Kd) (vars : Vars) (y a b : Str) (iter : Expr) (scope : Scope) : Option V :=
  if pairOk scope y a b = true ∧ notSet iter = true then (ih false kd vars iter).bind fun v => match v with
    | .list xs => if xs.length ≤ 2 ^ 20 then (pairV xs).map .list else none
    | _ => none
  else none

noncomputable def evCall (C : Cfg) (ih : EvTy) (kd : Kd) (vars : Vars) (f : Str) (args : List Expr) : Option V :=
  if isGlob kd vars f = true ∧ args ≠ [] then
    match C.fn f with
    | some _ => (evArgs ih kd vars args).bind (C.phi f)
    | none =>
      if f = "isinstance" then
        match args with
        | [e, .Name T _] => if isGlob kd vars T = true ∧ notStar e = true then (ih false kd vars e).bind fun v => isiV v T else none
        | _ => none
      else if f = "list" then
        match args with
        | [.Call (.Name r _) as [] _] => if isGlob kd vars r = true ∧ r = "range" ∧ as.length ≤ 3 then ((evArgs ih kd vars as).bind rangeV).map .list else none
        | _ => none
      else match builtinOf f with
        | some _ => (evArgs ih kd vars args).bind (builtinV f)
        | none => none
  else none
noncomputable def evMeth (C : Cfg) (ih : EvTy) (kd : Kd) (vars : Vars) (o : Expr) (m : Str) (args : List Expr) : Option V :=
  match dictOf? C kd vars o with
  | some es => if m = "get" then
      match args with
      | [k, d] => if notStar k = true ∧ notStar d = true then (ih false kd vars k).bind fun kv => (ih false kd vars d).bind fun dv => match kv with
        | .str x => some (match es.lookup x with | some i => .int i | none => dv)
        | _ => none else none
      | _ => none
    else none
  | none => if notCall o = true then (ih false kd vars o).bind fun ov => (evArgs ih kd vars args).bind fun vs => methV m ov vs else none
noncomputable def evBool (ih : EvTy) (kd : Kd) (vars : Vars) (op : BoolOp) (a b : Expr) : Option V :=
  (ih false kd vars a).bind fun va => (truthV va).bind fun t => match op with
    | .And => if t = true then ih false kd vars b else some va
    | .Or => if t = true then some va else ih false kd vars b
noncomputable def evCmp (C : Cfg) (ih : EvTy) (kd : Kd) (vars : Vars) (l : Expr) (op : CmpOp) (r : Expr) : Option V :=
  if notSet r = true then match dictOf? C kd vars r with
    | some es => if (op == .NotIn) = true then (ih false kd vars l).bind fun k => match k with | .str x => some (.bool (!(es.lookup x).isSome)) | _ => none else none
    | none => (ih false kd vars l).bind fun a => (ih false kd vars r).bind fun b => cmpV op a b
  else none
noncomputable def evDisp (ih : EvTy) (kd : Kd) (vars : Vars) (ks : List (Option Expr)) (vs : List Expr) (i : Expr) : Option V :=
  (dispOf ks vs).bind fun es => if es.length ≤ 15 ∧ es ≠ [] ∧ (es.map (·.1)).Nodup then (ih false kd vars i).bind fun k => match k with | .str x => (es.lookup x).map .int | _ => none else none
noncomputable def evSlice (ih : EvTy) (kd : Kd) (vars : Vars) (v : Expr) (lo hi st : Option Expr) : Option V :=
  (ih false kd vars v).bind fun a => (evPart ih kd vars lo).bind fun l => (evPart ih kd vars hi).bind fun h => (evPart ih kd vars st).bind fun t =>
      (optI l).bind fun l => (optI h).bind fun h => (optI t).bind fun t => sliceV a l h t
noncomputable def evSub (ih : EvTy) (kd : Kd) (vars : Vars) (v i : Expr) : Option V :=
  match dispE? v with
  | some d => evDisp ih kd vars d.1 d.2 i
  | none => match sliceE? i with
    | some t => evSlice ih kd vars v t.1 t.2.1 t.2.2
    | none => (ih false kd vars v).bind fun a => (ih false kd vars i).bind fun k => idxV a k
noncomputable def evCallE (C : Cfg) (ih : EvTy) (kd : Kd) (vars : Vars) (f : Expr) (args : List Expr) (pos : Pos) : Option V :=
  match nameE? f with
  | some f => evCall C ih kd vars f args
  | none => (attrE? f).bind fun t => if (t.2.2.endLine == pos.line) = true ∧ args.length < 20 then evMeth C ih kd vars t.1 t.2.1 args else none
noncomputable def pairT? (es : List Expr) : Option (Str × Str) := match es with
  | [a, b] => (nameE? a).bind fun a => (nameE? b).map fun b => (a, b)
  | _ => none
noncomputable def evLC (ih : EvTy) (kd : Kd) (vars : Vars) (elt : Expr) (t iter : Expr) (ifs : List Expr) (scope : Scope) : Option V :=
  match nameE? t with
  | some x => evComp ih kd vars elt x iter ifs scope
  | none => if ifs.isEmpty = true then (nameE? elt).bind fun y => ((tupE? t).bind pairT?).bind fun ab => evPair ih kd vars y ab.1 ab.2 iter scope else none
noncomputable def evStep (C : Cfg) (ih : EvTy) (kd : Kd) (vars : Vars) : Expr → Option V
  | .Constant c _ _ => constV c
  | .Name x _ => match vars.lookup x with
    | some v => some v
    | none => if kd.lookup x == some .globalImplicit then (C.gconst x).map .int else none
  | .BoolOp op es _ => match es with
    | [a, b] => evBool ih kd vars op a b
    | _ => none
  | .BinOp l op r _ => (ih false kd vars l).bind fun a => (ih false kd vars r).bind fun b => binV op a b
  | .UnaryOp op x _ => (ih false kd vars x).bind fun a => unV op a
  | .IfExp t b o _ => (ih true kd vars t).bind fun tv => match tv with
    | .bool true => ih false kd vars b
    | .bool false => ih false kd vars o
    | _ => none
  | .List es _ => if es.length ≤ 2 ^ 20 then (evArgs ih kd vars es).map .list else none
  | .Tuple es _ _ => if es.length ≤ 2 ^ 20 then (evArgs ih kd vars es).map .tup else none
  | .Compare l ops rs _ => match ops with
    | [op] => match rs with
      | [r] => evCmp C ih kd vars l op r
      | _ => none
    | _ => none
  | .Subscript v i _ => evSub ih kd vars v i
  | .Call f args kws pos => match kws with
    | [] => evCallE C ih kd vars f args pos
    | _ => none
  | .ListComp elt gens scope _ => match gens with
    | [⟨t, iter, ifs, k⟩] => if (k == 0) = true then evLC ih kd vars elt t iter ifs scope else none
    | _ => none
  | _ => none
noncomputable def allT (ih : EvTy) (kd : Kd) (vars : Vars) (op : BoolOp) : List Expr → Option V
  | [] => some (.bool (op == .And))
  | x :: r => (ih true kd vars x).bind fun b => match op, b with
    | .And, .bool false => some (.bool false)
    | .And, .bool true => allT ih kd vars op r
    | .Or, .bool true => some (.bool true)
    | .Or, .bool false => allT ih kd vars op r
    | _, _ => none
noncomputable def tstVal (C : Cfg) (ih : EvTy) (kd : Kd) (vars : Vars) (e : Expr) : Option V := (evStep C ih kd vars e).bind fun v => (truthV v).map .bool
noncomputable def tstStep (C : Cfg) (ih : EvTy) (kd : Kd) (vars : Vars) (e : Expr) : Option V :=
  match boolE? e with
  | some b => allT ih kd vars b.1 b.2
  | none => match negE? e with
    | some u => if (u.1 == .Not) = true then (ih true kd vars u.2).bind fun b => match b with | .bool b => some (.bool (!b)) | _ => none else tstVal C ih kd vars e
    | none => if isIfE e = true then none else tstVal C ih kd vars e
noncomputable def ev (C : Cfg) : Nat → EvTy
  | 0 => fun _ _ _ _ => none
  | n + 1 => fun m kd vars e => match m with
    | true => tstStep C (ev C n) kd vars e
    | false => evStep C (ev C n) kd vars e
end Mine
namespace Mine

structure Cx (K : Frag) (p : Program) (loose : List Str) (mg mb : Str → Option Value) (W : List Addr) (env : Env) (kd : Kd) (vars : Vars) (h : Heap) : Prop where
  gf : GF K p loose mg mb h
  er : ERep W h env kd vars
  hW : ∀ a ∈ W, ∃ o, h.get? a = some o
  dbg : kd.lookup ("__debug__" : Str) = none
theorem Cx.keeps {K p loose mg mb W env kd vars h h'} (c : Cx K p loose mg mb W env kd vars h) (k : KeepsH h h') : Cx K p loose mg mb W env kd vars h' :=
  ⟨c.gf.keeps k, c.er.keeps k, fun a ha => let ⟨o, e⟩ := c.hW a ha; ⟨o, k _ _ e⟩, c.dbg⟩

/-- a def's contract at some arguments -/
noncomputable def CallOk (prog : Program) (w : World) (K : Frag) (p : Program) (loose : List Str) (mg mb : Str → Option Value) (lvl : Nat) (a : Addr) (args : List V) (v : V) : Prop :=
  ∀ (A : Around) (s : Shared) (W : List Addr) (vals : List Value), Room lvl A → GF K p loose mg mb s.heap → (∀ a ∈ W, ∃ o, s.heap.get? a = some o) → VReps W s.heap args vals → Gv prog w A W s (call (.ref a) vals) v

structure CfgOk (C : Cfg) (prog : Program) (w : World) (K : Frag) (p : Program) (loose : List Str) (mg mb : Str → Option Value) (lvl : Nat) : Prop where
  const : ∀ x i, C.gconst x = some i → ∃ t, nsIn K mainGlobals x = some (some (.int i t))
  dict : ∀ x es, C.gdict x = some es → ∃ a E n, nsIn K mainGlobals x = some (some (.ref a)) ∧ (a == sysModules) = false ∧ K.lookup a = some ⟨.type "dict", none, .dict E n, #[]⟩ ∧ KeysLit w.params E.toList ∧
    ∀ k, match es.lookup k with | some i => ∃ t, findBy Value.isStrOf E k = some (.int i t) | none => findBy Value.isStrOf E k = none
  fn : ∀ f a, C.fn f = some a → nsIn K mainGlobals f = some (some (.ref a)) ∧ keepIn K (.ref a) = true
  call : ∀ f a args v, C.fn f = some a → C.phi f args = some v → CallOk prog w K p loose mg mb lvl a args v
  free : ∀ x : Str, x ∈ (["len", "sum", "min", "max", "str", "list", "range", "isinstance", "bool", "int"] : List Str) → nsIn K mainGlobals x = some none

section
variable {C : Cfg} {prog : Program} {w : World} {K : Frag} {p : Program} {loose : List Str} {mg mb : Str → Option Value} {lvl : Nat}

noncomputable def EvOk (prog : Program) (w : World) (K : Frag) (p : Program) (loose : List Str) (mg mb : Str → Option Value) (lvl : Nat) (ih : EvTy) : Prop :=
  ∀ kd vars e v, (ih false kd vars e = some v → ∀ A s W env, Room lvl A → Cx K p loose mg mb W env kd vars s.heap → Gv prog w A W s (eval e env) v) ∧
    (ih true kd vars e = some v → ∃ b, v = .bool b ∧ ∀ A s W env, Room lvl A → Cx K p loose mg mb W env kd vars s.heap → GvB prog w A s (isTrue e env (eval e env)) b)

variable {ih : EvTy} {A : Around} {s : Shared} {W : List Addr} {env : Env} {kd : Kd} {vars : Vars}

theorem isGlob_kind {x : Str} (h : isGlob kd vars x = true) (c : Cx K p loose mg mb W env kd vars s.heap) : env.kindOf x = some .globalImplicit := by
  unfold isGlob at h
  simp only [Bool.and_eq_true, beq_iff_eq] at h
  unfold Env.kindOf
  rw [c.er.kd]; exact h.2
theorem dbg_of {x : Str} (hx : (kd.lookup x).isSome = true) (c : Cx K p loose mg mb W env kd vars s.heap) : (x == ("__debug__" : Str)) = false := by
  cases h : x == ("__debug__" : Str) with
  | false => rfl
  | true => have := beq_iff_eq.mp h; subst this; rw [c.dbg] at hx; cases hx
theorem isGlob_some {x : Str} (h : isGlob kd vars x = true) : (kd.lookup x).isSome = true := by
  unfold isGlob at h
  simp only [Bool.and_eq_true, beq_iff_eq] at h
  rw [h.2]; rfl

theorem name_global {E : Value → Shared → Prop} {x : Str} {pos : Pos} {v : Value} {Q : Value → Shared → Prop} (hg : isGlob kd vars x = true) (c : Cx K p loose mg mb W env kd vars s.heap) (e : nsIn K mainGlobals x = some (some v)) (h : Q v s) :
    wpAny (model prog w) A (eval (.Name x pos) env) Q E s :=
  Calls.Name_function_global c.er.fn (isGlob_kind hg c) (Calls.loadGlobal_global (mg := mg) (by rw [c.er.gl]; exact c.gf.2.g) (mg_of c.gf.1 c.gf.2.g e) h) (dbg_of (isGlob_some hg) c)
theorem name_builtin {E : Value → Shared → Prop} {x : Str} {pos : Pos} {v : Value} {Q : Value → Shared → Prop} (hg : isGlob kd vars x = true) (c : Cx K p loose mg mb W env kd vars s.heap) (e : nsIn K mainGlobals x = some none)
    (hb : bootBuiltins x = some v) (hn : x ≠ "__name__") (h : Q v s) :
    wpAny (model prog w) A (eval (.Name x pos) env) Q E s :=
  Calls.Name_function_global c.er.fn (isGlob_kind hg c) (Calls.loadGlobal_builtin (mg := mg) (mb := mb) (by rw [c.er.gl]; exact c.gf.2.g) (mg_none_of c.gf.1 c.gf.2.g e) (by rw [c.er.bl]; exact c.gf.2.b) ((c.gf.2.builtins x hn).trans hb) h) (dbg_of (isGlob_some hg) c)

theorem starEach_not {e : Expr} {rest : List Expr} (h : notStar e = true) : starEach (e :: rest) env = (false, eval e env) :: starEach rest env := by
  cases e <;> first | rfl | cases h

theorem evArgs_sound (IH : EvOk prog w K p loose mg mb lvl ih) (hr : Room lvl A) {pos : Pos} : ∀ {es : List Expr} {vs : List V} {s : Shared}, evArgs ih kd vars es = some vs → Cx K p loose mg mb W env kd vars s.heap →
    GvL prog w A W s (spliced (backTo pos (starEach es env))) vs
  | [], vs, s, e, c => by
    cases e
    exact Calls.spliced_nil ⟨s.heap, s.toks, rfl, fun _ _ e => e, .nil⟩
  | x :: r, vs, s, e, c => by
    unfold evArgs at e
    split at e
    · rename_i hs
      rw [Option.bind_eq_some_iff] at e
      obtain ⟨v, e1, e⟩ := e
      rw [Option.bind_eq_some_iff] at e
      obtain ⟨us, e2, e⟩ := e
      cases e
      unfold GvL
      rw [starEach_not hs]
      refine Calls.spliced_cons (((IH kd vars x v).1 e1 A s W env hr c).bindQ fun y h' tk' k r1 => ?_)
      refine (evArgs_sound IH hr e2 (c.keeps k)).bindQ fun ys h2 tk2 k2 r2 => ⟨h2, tk2, rfl, fun b o e => k2 b o (k b o e), .cons (r1.keeps k2) r2⟩
    · cases e

theorem evArgs_notStar : ∀ {es : List Expr} {vs : List V}, evArgs ih kd vars es = some vs → ∀ e ∈ es, notStar e = true
  | [], _, _, _, h => by cases h
  | x :: r, vs, e, y, hy => by
    unfold evArgs at e
    split at e
    · rename_i hs
      rw [Option.bind_eq_some_iff] at e
      obtain ⟨v, e1, e⟩ := e
      rw [Option.bind_eq_some_iff] at e
      obtain ⟨us, e2, e⟩ := e
      rcases List.mem_cons.mp hy with rfl | hy
      · exact hs
      · exact evArgs_notStar e2 y hy
    · cases e
theorem plain_args {pos : Pos} : ∀ {es : List Expr}, (∀ e ∈ es, notStar e = true) → (backTo pos (starEach es env)).any (·.1) = false
  | [], _ => rfl
  | x :: r, h => by
    rw [starEach_not (h x List.mem_cons_self)]
    show (false || (backTo pos (starEach r env)).any (·.1)) = false
    rw [plain_args fun e he => h e (List.mem_cons_of_mem _ he)]; rfl
theorem evalArgs_of {f : Value} {pos : Pos} {es : List Expr} {E : Value → Shared → Prop} {Q : Args → Shared → Prop} (hne : es ≠ []) (hp : ∀ e ∈ es, notStar e = true)
    (h : wpAny (model prog w) A (spliced (backTo pos (starEach es env))) (fun vs s₁ => Q ⟨vs, []⟩ s₁) E s) : wpAny (model prog w) A (evalArgs f true (backTo pos (starEach es env)) []) Q E s := by
  cases es with
  | nil => exact absurd rfl hne
  | cons x r =>
    rw [starEach_not (hp x List.mem_cons_self)] at h ⊢
    exact Calls.evalArgs_plain h

/-- f(args), f a def of the text -/
theorem call_fn (ok : CfgOk C prog w K p loose mg mb lvl) (IH : EvOk prog w K p loose mg mb lvl ih) (hr : Room lvl A) {f : Str} {a : Addr} {es : List Expr} {vs : List V} {v : V} {fp pos : Pos} (hg : isGlob kd vars f = true) (hne : es ≠ [])
    (ef : C.fn f = some a) (e1 : evArgs ih kd vars es = some vs) (e2 : C.phi f vs = some v) (c : Cx K p loose mg mb W env kd vars s.heap) : Gv prog w A W s (eval (.Call (.Name f fp) es [] pos) env) v := by
  unfold Gv
  obtain ⟨hn, hk⟩ := ok.fn f a ef
  have hp := evArgs_notStar e1
  refine wpAny_Call_NameR (name_global hg c hn ?_)
  refine callWith_of (P := fun h => K.In h) (by rw [plain_args hp]; rfl) (fun h X => keeps_K hk h X) (evalArgs_of hne hp ((evArgs_sound IH hr e1 c).bindQ fun xs h' tk' k r => ⟨(c.keeps k).gf.1, ?_⟩))
  exact (ok.call f a vs v ef e2 A { s with heap := h', toks := tk' } W xs hr (c.keeps k).gf (c.keeps k).hW r).from k
theorem mem_free {x : Str} (h : x = "len" ∨ x = "sum" ∨ x = "min" ∨ x = "max" ∨ x = "str" ∨ x = "list" ∨ x = "range" ∨ x = "isinstance" ∨ x = "bool" ∨ x = "int") :
    x ∈ (["len", "sum", "min", "max", "str", "list", "range", "isinstance", "bool", "int"] : List Str) := by
  simp only [List.mem_cons, List.not_mem_nil, or_false]
  exact h
theorem builtinOf_boot {f : Str} {fv : Value} (e : builtinOf f = some fv) : bootBuiltins f = some fv ∧ f ≠ "__name__" ∧ f ∈ (["len", "sum", "min", "max", "str", "list", "range", "isinstance", "bool", "int"] : List Str) ∧ ((∃ id, fv = .builtin id) ∨ ∃ T, fv = .type T) := by
  unfold builtinOf at e
  split at e
  · rename_i h; subst h; cases e; exact ⟨boot_len, by decide, mem_free (by simp), .inl ⟨_, rfl⟩⟩
  · split at e
    · rename_i h; subst h; cases e; exact ⟨boot_sum, by decide, mem_free (by simp), .inl ⟨_, rfl⟩⟩
    · split at e
      · rename_i h; subst h; cases e; exact ⟨boot_min, by decide, mem_free (by simp), .inl ⟨_, rfl⟩⟩
      · split at e
        · rename_i h; subst h; cases e; exact ⟨boot_max, by decide, mem_free (by simp), .inl ⟨_, rfl⟩⟩
        · split at e
          · rename_i h; subst h; cases e; exact ⟨boot_str, by decide, mem_free (by simp), .inr ⟨_, rfl⟩⟩
          · split at e
            · rename_i h; subst h; cases e; exact ⟨by decide +kernel, by decide, mem_free (by simp), .inr ⟨_, rfl⟩⟩
            · cases e
theorem call_bi (ok : CfgOk C prog w K p loose mg mb lvl) (IH : EvOk prog w K p loose mg mb lvl ih) (hr : Room lvl A) {f : Str} {fv : Value} {es : List Expr} {vs : List V} {v : V} {fp pos : Pos} (hg : isGlob kd vars f = true) (hne : es ≠ [])
    (ef : builtinOf f = some fv) (e1 : evArgs ih kd vars es = some vs) (e2 : builtinV f vs = some v) (c : Cx K p loose mg mb W env kd vars s.heap) : Gv prog w A W s (eval (.Call (.Name f fp) es [] pos) env) v := by
  unfold Gv
  obtain ⟨hb, hn, hm, hv⟩ := builtinOf_boot ef
  have hp := evArgs_notStar e1
  refine wpAny_Call_NameR (name_builtin hg c (ok.free f hm) hb hn ?_)
  have key : wpAny (model prog w) A (spliced (backTo pos (starEach es env))) (fun xs s₁ => wpAny (model prog w) A (call fv xs) (fun x s' => ∃ h' tk', s' = { s with heap := h', toks := tk' } ∧ KeepsH s.heap h' ∧ VRep W h' v x) (fun _ _ => False) s₁) (fun _ _ => False) s :=
    (evArgs_sound IH hr e1 c).bindQ fun xs h' tk' k r => (builtinV_sound hr.hh e2 ef r).from k
  rcases hv with ⟨id, rfl⟩ | ⟨T, rfl⟩
  · exact Calls.callWith_builtin (plain_args hp) (evalArgs_of hne hp key)
  · exact PySem.callWith_type (plain_args hp) (evalArgs_of hne hp key)

theorem call_isi (ok : CfgOk C prog w K p loose mg mb lvl) (IH : EvOk prog w K p loose mg mb lvl ih) (hr : Room lvl A) {e : Expr} {T : Str} {u v : V} {fp tp pos : Pos} (hg : isGlob kd vars "isinstance" = true) (hT : isGlob kd vars T = true) (hs : notStar e = true)
    (e1 : ih false kd vars e = some u) (e2 : isiV u T = some v) (c : Cx K p loose mg mb W env kd vars s.heap) : Gv prog w A W s (eval (.Call (.Name "isinstance" fp) [e, .Name T tp] [] pos) env) v := by
  unfold Gv
  refine wpAny_Call_NameR (name_builtin hg c (ok.free _ (mem_free (by simp))) boot_isinstance (by decide) ?_)
  have hp : ∀ x ∈ [e, Expr.Name T tp], notStar x = true := fun x hx => by
    simp at hx; rcases hx with rfl | rfl
    · exact hs
    · rfl
  refine Calls.callWith_builtin (plain_args hp) (evalArgs_of (by simp) hp ?_)
  rw [starEach_not hs]
  refine Calls.spliced_cons (((IH kd vars e u).1 e1 A s W env hr c).bindQ fun x h' tk' k r => ?_)
  have c' := c.keeps k
  obtain ⟨hTT, fin⟩ := isiV_sound (prog := prog) (w := w) (A := A) (s := { s with heap := h', toks := tk' }) e2 r
  rw [starEach_not rfl]
  rcases hTT with rfl | rfl
  · exact Calls.spliced_cons (name_builtin (s := { s with heap := h', toks := tk' }) hT c' (ok.free _ (mem_free (by simp))) (v := .type "bool") (by decide +kernel) (by decide) (Calls.spliced_nil ((fin "bool" (fun _ => rfl) (fun e => by exact absurd e (by decide))).from k)))
  · exact Calls.spliced_cons (name_builtin (s := { s with heap := h', toks := tk' }) hT c' (ok.free _ (mem_free (by simp))) (v := .type "int") (by decide +kernel) (by decide) (Calls.spliced_nil ((fin "int" (fun e => by exact absurd e (by decide)) (fun _ => rfl)).from k)))

/-- range(..) as a source; list(range(..)) -/
theorem eval_range (ok : CfgOk C prog w K p loose mg mb lvl) (IH : EvOk prog w K p loose mg mb lvl ih) (hr : Room lvl A) {es : List Expr} {vs xs : List V} {fp pos : Pos} (hg : isGlob kd vars "range" = true)
    (e1 : evArgs ih kd vars es = some vs) (e2 : rangeV vs = some xs) (c : Cx K p loose mg mb W env kd vars s.heap) {Q : Value → Shared → Prop} {E : Value → Shared → Prop}
    (h : ∀ r a b d t u v h' tk', okR a b d = true → xs = rangeVs a b d → KeepsH s.heap h' → IsRange h' r a b d t u v → Q (.ref r) { s with heap := h', toks := tk' }) :
    wpAny (model prog w) A (eval (.Call (.Name "range" fp) es [] pos) env) Q E s := by
  have hp := evArgs_notStar e1
  have hne : es ≠ [] := by rintro rfl; cases e1; cases e2
  refine wpAny_Call_NameR (name_builtin hg c (ok.free _ (mem_free (by simp))) boot_range (by decide) ?_)
  refine PySem.callWith_type (plain_args hp) (evalArgs_of hne hp ((evArgs_sound IH hr e1 c).bindQ fun ys h' tk' k r => ?_))
  unfold rangeV at e2
  split at e2
  · obtain ⟨hok, rfl⟩ := ite_some e2
    obtain ⟨x, l, rfl, r1, r2⟩ := r.uncons
    have := r2.unnil; subst this
    obtain ⟨t, rfl⟩ := r1.toInt
    exact call_range_1 (h _ _ _ _ _ _ _ _ _ hok rfl (fun b o e => Heap.get?_push_of_some _ (k b o e)) (Heap.get?_push_size _ rfl))
  · obtain ⟨hok, rfl⟩ := ite_some e2
    obtain ⟨x, l, rfl, r1, r2⟩ := r.uncons
    obtain ⟨y, l, rfl, r3, r4⟩ := r2.uncons
    have := r4.unnil; subst this
    obtain ⟨t, rfl⟩ := r1.toInt; obtain ⟨u, rfl⟩ := r3.toInt
    exact call_range_2 (h _ _ _ _ _ _ _ _ _ hok rfl (fun b o e => Heap.get?_push_of_some _ (k b o e)) (Heap.get?_push_size _ rfl))
  · obtain ⟨hok, rfl⟩ := ite_some e2
    obtain ⟨x, l, rfl, r1, r2⟩ := r.uncons
    obtain ⟨y, l, rfl, r3, r4⟩ := r2.uncons
    obtain ⟨z, l, rfl, r5, r6⟩ := r4.uncons
    have := r6.unnil; subst this
    obtain ⟨t, rfl⟩ := r1.toInt; obtain ⟨u, rfl⟩ := r3.toInt; obtain ⟨q, rfl⟩ := r5.toInt
    obtain ⟨_, _, _, h1, h2⟩ := okR_small hok
    exact PySem.call_range_3 (by (first | lia | omega)) (h _ _ _ _ _ _ _ _ _ hok rfl (fun b o e => Heap.get?_push_of_some _ (k b o e)) (Heap.get?_push_size _ rfl)) (.inl (PyProof.noPylong_small (by (first | lia | omega))))
  · cases e2
end
end Mine
namespace Mine
section
variable {C : Cfg} {prog : Program} {w : World} {K : Frag} {p : Program} {loose : List Str} {mg mb : Str → Option Value} {lvl : Nat}
variable {ih : EvTy} {A : Around} {s : Shared} {W : List Addr} {env : Env} {kd : Kd} {vars : Vars}

/-! a display of written texts and ints -/
theorem disp_pairs : ∀ {ks : List (Option Expr)} {vs : List Expr} {es : List (Str × Int)}, dispOf ks vs = some es → ∀ pos : Pos,
    ∃ pairs : List (Sem Value × Sem Value), (evalEachOpt ks env).zip ((evalEach vs env).map fun v => do let x ← v; standAt pos; pure x) = pairs.map (fun q => (some q.1, q.2)) ∧ pairs.length = es.length ∧
      ∀ (s : Shared) (Q : List (Value × Value) → Shared → Prop) (E : Value → Shared → Prop),
        (∀ xs kvs tk, Carries (strKind prog w) xs kvs → kvs.map (·.1) = es.map (·.1) → (∀ x i, es.lookup x = some i → ∃ t, kvs.lookup x = some (.int i t)) → Q xs { s with toks := tk }) → wpAny (model prog w) A (evalPairs pairs) Q E s
  | [], vs, es, e, pos => by
    unfold dispOf at e
    obtain ⟨_, rfl⟩ := ite_some e
    exact ⟨[], rfl, rfl, fun s Q E h => evalPairs_nil (h [] [] s.toks True.intro rfl (fun x i e => by simp at e))⟩
  | k :: ks, vs, es, e, pos => by
    unfold dispOf at e
    rw [Option.bind_eq_some_iff] at e
    obtain ⟨v, hv, e⟩ := e
    rw [Option.bind_eq_some_iff] at e
    obtain ⟨k', rfl, e⟩ := e
    rw [Option.bind_eq_some_iff] at e
    obtain ⟨x, hx, e⟩ := e
    rw [Option.bind_eq_some_iff] at e
    obtain ⟨i, hi, e⟩ := e
    rw [Option.map_eq_some_iff] at e
    obtain ⟨r, e1, rfl⟩ := e
    rw [Option.bind_eq_some_iff] at hx hi
    obtain ⟨c1, hx1, hx2⟩ := hx
    obtain ⟨c2, hi1, hi2⟩ := hi
    obtain ⟨k1, p1, rfl⟩ := constE?_some hx1
    obtain ⟨k2, p2, rfl⟩ := constE?_some hi1
    cases strC?_some hx2
    cases intC?_some hi2
    cases vs with
    | nil => cases hv
    | cons v0 vs =>
    cases hv
    obtain ⟨pairs, h1, h2, h3⟩ := disp_pairs e1 pos
    refine ⟨(mkText x, (do let v ← mkInt i; standAt pos; pure v)) :: pairs, ?_, by rw [List.length_cons, List.length_cons, h2], fun s Q E h => ?_⟩
    · show (_, _) :: _ = _
      rw [List.map_cons]
      congr 1
    · refine evalPairs_cons (wpAny_mkText (wpAny_bind (wpAny_mkInt (wpAny_bind (wpAny_standAt (wpAny_pure (h3 _ _ _ fun xs kvs tk hc hk hl => ?_)))))))
      refine h _ ((x, .int i _) :: kvs) tk ⟨strKind_is prog w x _, rfl, hc⟩ (by rw [List.map_cons, List.map_cons, hk]) fun y j hy => ?_
      rw [List.lookup_cons] at hy ⊢
      cases hyx : y == x with
      | true => rw [hyx] at hy; cases hy; exact ⟨_, rfl⟩
      | false => rw [hyx] at hy; exact hl y j hy
theorem lookup_find {α : Type} (x : Str) : ∀ l : List (Str × α), l.lookup x = (l.find? fun kv => decide (kv.1 = x)).map (·.2)
  | [] => rfl
  | (k, v) :: r => by
    rw [List.lookup_cons, List.find?_cons]
    cases h : x == k with
    | true => have := beq_iff_eq.mp h; subst this; simp
    | false =>
      have : ¬ k = x := fun e => by subst e; simp at h
      simp only [this, decide_false]
      exact lookup_find x r

theorem disp_item {ks : List (Option Expr)} {vs : List Expr} {es : List (Str × Int)} {ie : Expr} {x : Str} {i : Int} {p1 pos : Pos} (e : dispOf ks vs = some es) (hl : es.length ≤ 15) (hne : es ≠ []) (hn : (es.map (·.1)).Nodup)
    (hi : es.lookup x = some i) (g : ∀ s : Shared, Cx K p loose mg mb W env kd vars s.heap → Gv prog w A W s (eval ie env) (.str x)) (c : Cx K p loose mg mb W env kd vars s.heap) :
    Gv prog w A W s (eval (.Subscript (.Dict ks vs p1) ie pos) env) (.int i) := by
  obtain ⟨pairs, h1, h2, h3⟩ := disp_pairs (prog := prog) (w := w) (A := A) (env := env) e p1
  unfold Gv
  refine Subscript_gen (wpAny_Dict_pairs (knd := strKind prog w) h1 (by rintro rfl; exact hne (List.length_eq_zero_iff.mp (by simpa using h2.symm))) (by (first | lia | omega)) (h3 _ _ _ fun xs kvs tk hc hk hlk => ⟨kvs, hc, Heap.DictOf.new s.heap, fun h' hd hs => ?_⟩))
  have k : KeepsH s.heap h' := fun b o eb => hs.extBut b o (Nat.ne_of_lt (Heap.lt_size eb)) (Heap.get?_push_of_some _ eb)
  refine (g { s with heap := h', toks := tk + xs.length } (c.keeps k)).bindQ fun y h2 tk2 k2 r => ?_
  obtain ⟨_, t, rfl⟩ := r.toStr
  have hm : merged ([] : List (Str × Value)) kvs = kvs := by
    rw [merged_append_of_fresh [] kvs (by simpa [hk] using hn)]; rfl
  rw [hm] at hd
  have hd2 : h2.DictOf (strKind prog w) s.heap.objs.size kvs := by
    obtain ⟨o, es, ep, a, r⟩ := hd
    exact ⟨o, es, ep, k2 _ _ a, r⟩
  obtain ⟨t', hv⟩ := hlk x i hi
  refine ⟨⟨"dict", _, slot_dict_getitem.lookup, hd2.typeIs⟩, wpAny_getItem_of (strKind_is prog w x t) hd2.mapOf (v := .int i t') ?_ ?_⟩
  · show valueAt kvs x = _
    unfold valueAt
    rw [← hv, lookup_find]
  · exact ⟨h2, _, rfl, fun b o eb => k2 b o (k b o eb), .int⟩
end
end Mine
namespace Mine
section
variable {C : Cfg} {prog : Program} {w : World} {K : Frag} {p : Program} {loose : List Str} {mg mb : Str → Option Value} {lvl : Nat}
variable {ih : EvTy} {A : Around} {s : Shared} {W : List Addr} {env : Env} {kd : Kd} {vars : Vars}

theorem base_not {o : Expr} {m : Str} (h : notCall o = true) : attributeBase o m env (eval o env) = eval o env := by
  cases o <;> first | rfl | cases h
theorem noStars {es : List Expr} {pos : Pos} (h : ∀ e ∈ es, notStar e = true) : (backTo pos (starEach es env)).all (fun x => !x.1) = true := by
  have := plain_args (env := env) (pos := pos) h
  rw [List.all_eq_true]
  rw [List.any_eq_false] at this
  intro x hx
  have := this x hx
  simpa using this

theorem dict_some {o : Expr} {es : List (Str × Int)} (h : dictOf? C kd vars o = some es) : ∃ d q, o = .Name d q ∧ isGlob kd vars d = true ∧ C.gdict d = some es := by
  unfold dictOf? at h
  rw [Option.bind_eq_some_iff] at h
  obtain ⟨d, hd, h⟩ := h
  obtain ⟨q, rfl⟩ := nameE?_some hd
  split at h
  · rename_i hg; exact ⟨_, _, rfl, hg, h⟩
  · cases h

theorem evMeth_sound (ok : CfgOk C prog w K p loose mg mb lvl) (IH : EvOk prog w K p loose mg mb lvl ih) (hr : Room lvl A) {o : Expr} {m : Str} {es : List Expr} {v : V} {apos pos : Pos} (hline : (apos.endLine == pos.line) = true) (hfew : es.length < 20)
    (e : evMeth C ih kd vars o m es = some v) (c : Cx K p loose mg mb W env kd vars s.heap) : Gv prog w A W s (eval (.Call (.Attribute o m apos) es [] pos) env) v := by
  unfold evMeth at e
  split at e
  · rename_i D hD
    obtain ⟨d, q, rfl, hg, hd⟩ := dict_some hD
    obtain ⟨a, E, n, hn, hsys, hK, hlit, hfind⟩ := ok.dict d D hd
    split at e
    · rename_i hm
      subst hm
      split at e
      · rename_i k df
        split at e
        · rename_i hs
          rw [Option.bind_eq_some_iff] at e
          obtain ⟨kv, e1, e⟩ := e
          rw [Option.bind_eq_some_iff] at e
          obtain ⟨dv, e2, e⟩ := e
          split at e
          · rename_i x
            cases e
            have hns : ∀ y ∈ [k, df], notStar y = true := fun y hy => by
              simp at hy; rcases hy with rfl | rfl
              · exact hs.1
              · exact hs.2
            unfold Gv
            refine wpAny_Call_method_lateS rfl (by rw [noStars hns]; rfl) hline (name_global hg c hn ?_)
            refine ⟨"dict", "dict.get", F.plainAttrs_dict, F.slot_dict_get, F.type_dict_get, ⟨_, c.gf.1 _ _ hK, rfl⟩, (fun b hb => by cases hb; exact ⟨_, c.gf.1 _ _ hK, rfl⟩), ?_⟩
            rw [starEach_not hs.1, starEach_not hs.2]
            refine wpAny_dict_get2 (knd := strKind prog w) hsys (((IH kd vars k _).1 e1 A s W env hr c).bindQ fun y h1 tk1 k1 r1 => ((IH kd vars df dv).1 e2 A _ W env hr (c.keeps k1)).bindQ fun z h2 tk2 k2 r2 => ?_)
            obtain ⟨_, t, rfl⟩ := r1.toStr
            refine ⟨x, _, strKind_is prog w x t, mapOf_K (c.keeps fun b o e => k2 b o (k1 b o e)).gf.1 hK hlit, h2, _, rfl, fun b o e => k2 b o (k1 b o e), ?_⟩
            have hx := hfind x
            cases hl : D.lookup x with
            | none => rw [hl] at hx; dsimp only at hx ⊢; rw [hx]; exact r2
            | some i => rw [hl] at hx; dsimp only at hx ⊢; obtain ⟨t', hx⟩ := hx; rw [hx]; exact .int
          · cases e
        · cases e
      · cases e
    · cases e
  · split at e
    · rename_i hD hc
      rw [Option.bind_eq_some_iff] at e
      obtain ⟨ov, e1, e⟩ := e
      rw [Option.bind_eq_some_iff] at e
      obtain ⟨vs, e2, e⟩ := e
      have hns := evArgs_notStar e2
      unfold Gv
      refine wpAny_Call_method_lateS (base_not hc) (by rw [noStars hns]; simp [show keywordEach [] env = [] from rfl, backToKw]; (first | lia | omega)) hline (((IH kd vars o ov).1 e1 A s W env hr c).bindQ fun x h1 tk1 k1 r1 => ?_)
      have c1 := c.keeps k1
      obtain ⟨T, id, pa, sl, ty, hT, hd, g⟩ := methV_sound (prog := prog) (w := w) (A := A) (s := { s with heap := h1, toks := tk1 }) c1.hW e r1
      cases es with
      | nil =>
        cases e2
        exact ⟨T, id, pa, sl, ty, hT, hd, Calls.callWith_builtin rfl (evalArgs_nil3 ((g h1 tk1 [] (fun _ _ e => e) .nil).from k1))⟩
      | cons a0 r0 =>
        refine ⟨T, id, pa, sl, ty, hT, hd, Calls.callWith_builtin (plain_args hns) (evalArgs_of (by simp) hns ((evArgs_sound (pos := pos) IH hr e2 (s := { s with heap := h1, toks := tk1 }) c1).bindQ fun xs h2 tk2 k2 r2 => ?_))⟩
        exact (g h2 tk2 xs k2 r2).from fun b o e => k2 b o (k1 b o e)
    · cases e

theorem evIter_sound (ok : CfgOk C prog w K p loose mg mb lvl) (IH : EvOk prog w K p loose mg mb lvl ih) (hr : Room lvl A) {e : Expr} {xs : List V} (h : evIter ih kd vars e = some xs) (c : Cx K p loose mg mb W env kd vars s.heap) :
    Src prog w A W s (eval e env) xs := by
  have gen : (ih false kd vars e).bind itemsV = some xs → Src prog w A W s (eval e env) xs := fun h => by
    rw [Option.bind_eq_some_iff] at h
    obtain ⟨v, e1, e2⟩ := h
    exact src_val hr.hh e2 c.hW ((IH kd vars e v).1 e1 A s W env hr c)
  unfold evIter at h
  split at h
  · split at h
    · rename_i hg
      obtain ⟨hg, rfl⟩ := hg
      split at h
      · rw [Option.bind_eq_some_iff] at h
        obtain ⟨vs, e1, e2⟩ := h
        refine eval_range ok IH hr hg e1 e2 c fun r a b d t u v h' tk' hok hx k hR => ?_
        subst hx
        exact src_range hr.hh k hok hR
      · cases h
    · exact gen h
  · exact gen h

theorem set_not {e : Expr} (h : notSet e = true) : ∀ v, foldedSetIterable e env v = pure v := by
  intro v
  cases e <;> first | rfl | cases h

theorem compV_split {f : V → Option (Option V)} : ∀ {xs ys : List V}, compV f xs = some ys →
    ∃ (test : V → Bool) (val : V → V), ys = (xs.filter test).map val ∧ ∀ x ∈ xs, f x = some (if test x = true then some (val x) else none) := by
  intro xs ys h
  let test : V → Bool := fun x => match f x with | some (some _) => true | _ => false
  let val : V → V := fun x => match f x with | some (some y) => y | _ => .none
  refine ⟨test, val, ?_⟩
  induction xs generalizing ys with
  | nil => cases h; exact ⟨rfl, by simp⟩
  | cons x xs ih =>
    simp only [compV, Option.bind_eq_some_iff] at h
    obtain ⟨r, h1, zs, h2, h3⟩ := h
    obtain ⟨h4, h5⟩ := ih h2
    cases h3
    cases r with
    | none =>
      have ht : test x = false := by show (match f x with | some (some _) => true | _ => false) = false; rw [h1]
      refine ⟨by rw [List.filter_cons, if_neg (by rw [ht]; decide)]; exact h4, fun y hy => ?_⟩
      rcases List.mem_cons.mp hy with rfl | hy
      · rw [ht, h1]; rfl
      · exact h5 y hy
    | some v =>
      have ht : test x = true := by show (match f x with | some (some _) => true | _ => false) = true; rw [h1]
      have hv : val x = v := by show (match f x with | some (some y) => y | _ => V.none) = v; rw [h1]
      refine ⟨by rw [List.filter_cons, if_pos ht, List.map_cons, hv, ← h4], fun y hy => ?_⟩
      rcases List.mem_cons.mp hy with rfl | hy
      · rw [ht, h1, hv]; rfl
      · exact h5 y hy
end
end Mine
namespace Mine
section
variable {C : Cfg} {prog : Program} {w : World} {K : Frag} {p : Program} {loose : List Str} {mg mb : Str → Option Value} {lvl : Nat}
variable {ih : EvTy} {A : Around} {s : Shared} {W : List Addr} {env : Env} {kd : Kd} {vars : Vars}

theorem evComp_core (ok : CfgOk C prog w K p loose mg mb lvl) (IH : EvOk prog w K p loose mg mb lvl ih) (hr : Room lvl A) {elt iter : Expr} {x : Str} {px pos : Pos} {ifs : List Expr} {scope : Scope} {v : V}
    (h : evComp ih kd vars elt x iter ifs scope = some v) (c : Cx K p loose mg mb W env kd vars s.heap) :
    ∃ ys, v = .list ys ∧ ∀ {use : Option (Value → Sem Unit)} {Q : Value → Shared → Prop} {E : Value → Shared → Prop}, (∀ (C D : Nat) (h4 : Heap) (tk4 : Nat) (m₀ : Str → Option Value), KeepsH s.heap h4 → h4.Ns C m₀ → s.heap.get? C = none → s.heap.get? D = none → VRep W h4 (.list ys) (.ref D) →
      compPost (model prog w) A E use Q (.ref D) C (.ok .next) { s with heap := h4, toks := tk4 }) → wpAny (model prog w) A (comprehension (.ListComp elt [⟨.Name x px, iter, ifs, 0⟩] scope pos) scope env (firstIterPos [⟨.Name x px, iter, ifs, 0⟩] pos) (newList []) false (eval iter env) use) Q E s := by
  unfold evComp at h
  split at h
  · rename_i hc
    obtain ⟨hsc, hvar, hset⟩ := hc
    rw [Option.bind_eq_some_iff] at h
    obtain ⟨xs, e1, h⟩ := h
    split at h
    · rename_i hlen
      rw [Option.map_eq_some_iff] at h
      obtain ⟨ys, e2, rfl⟩ := h
      obtain ⟨test, val, rfl, hf⟩ := compV_split e2
      unfold scopeOk at hsc
      simp only [Bool.and_eq_true, beq_iff_eq, List.all_eq_true, Bool.or_eq_true, bne_iff_ne, ne_eq, Option.isNone_iff_eq_none] at hsc
      obtain ⟨⟨⟨hk, hnm⟩, hfr⟩, hdb⟩ := hsc
      have hdbg : (relK scope.names kd).lookup ("__debug__" : Str) = none := by rw [lookup_relK, hdb]; rfl
      have cx : ∀ (W' : List Addr) (s₃ : Shared) (cenv : Env) (xi : V), KeepsH s.heap s₃.heap → (∀ a ∈ W', ∃ o, s₃.heap.get? a = some o) → ERep W' s₃.heap cenv (relK scope.names kd) (compVars scope kd vars x xi) →
          Cx K p loose mg mb W' cenv (relK scope.names kd) (compVars scope kd vars x xi) s₃.heap := fun W' s₃ cenv xi k hW er => ⟨c.gf.keeps k, er, hW, hdbg⟩
      refine ⟨_, rfl, fun {use Q E} fin => ?_⟩
      refine comp_core xs test val c.er c.hW hk (fun y hy hl => ?_) ?_ (fun n hn => ?_) (set_not hset) (evIter_sound ok IH hr e1 c) ?_ ?_ hlen fin
      · rcases hnm y hy with h | h
        · exact absurd hl h
        · exact h
      · unfold varOk at hvar
        simp only [Bool.or_eq_true, beq_iff_eq, Bool.and_eq_true, List.contains_eq_mem, decide_eq_true_eq] at hvar
        exact hvar
      · rcases hfr (n, .free) hn with h | h
        · exact absurd rfl h
        · exact h
      · intro i xi hxi W' s₃ cenv k hW er
        have hfx := hf xi (List.mem_of_getElem? hxi)
        have c' := cx W' s₃ cenv xi k hW er
        split at hfx
        · rw [Option.map_eq_some_iff] at hfx
          obtain ⟨y, _, hy⟩ := hfx
          have ht : test xi = true := by
            cases ht : test xi with
            | true => rfl
            | false => rw [ht] at hy; simp at hy
          rw [ht]
          exact wpAny_tests_nil ⟨rfl, s₃.heap, s₃.toks, rfl, fun _ _ e => e⟩
        · rename_i cd
          rw [Option.bind_eq_some_iff] at hfx
          obtain ⟨b, e3, hb⟩ := hfx
          obtain ⟨b', rfl, g⟩ := (IH _ _ cd b).2 e3
          have ht : test xi = b' := by
            cases b' with
            | true =>
              dsimp only at hb
              rw [Option.map_eq_some_iff] at hb
              obtain ⟨y, _, hy⟩ := hb
              cases ht : test xi with
              | true => rfl
              | false => rw [ht] at hy; simp at hy
            | false =>
              dsimp only at hb
              cases ht : test xi with
              | false => rfl
              | true => rw [ht] at hb; simp at hb
          rw [ht]
          exact wpAny_tests_one (g A s₃ W' cenv hr c')
        · cases hfx
      · intro i xi hxi ht W' s₃ cenv k hW er
        have hfx := hf xi (List.mem_of_getElem? hxi)
        have c' := cx W' s₃ cenv xi k hW er
        rw [ht] at hfx
        split at hfx
        · rw [Option.map_eq_some_iff] at hfx
          obtain ⟨y, e3, hy⟩ := hfx
          simp only [if_true, Option.some.injEq] at hy
          subst hy
          exact (IH _ _ elt _).1 e3 A s₃ W' cenv hr c'
        · rw [Option.bind_eq_some_iff] at hfx
          obtain ⟨b, e3, hb⟩ := hfx
          split at hb
          · rw [Option.map_eq_some_iff] at hb
            obtain ⟨y, e3, hy⟩ := hb
            simp only [if_true, Option.some.injEq] at hy
            subst hy
            exact (IH _ _ elt _).1 e3 A s₃ W' cenv hr c'
          · simp at hb
          · cases hb
        · cases hfx
    · cases h
  · cases h


theorem evComp_sound (ok : CfgOk C prog w K p loose mg mb lvl) (IH : EvOk prog w K p loose mg mb lvl ih) (hr : Room lvl A) {elt iter : Expr} {x : Str} {px pos : Pos} {ifs : List Expr} {scope : Scope} {v : V}
    (h : evComp ih kd vars elt x iter ifs scope = some v) (c : Cx K p loose mg mb W env kd vars s.heap) : Gv prog w A W s (eval (.ListComp elt [⟨.Name x px, iter, ifs, 0⟩] scope pos) env) v := by
  obtain ⟨ys, rfl, g⟩ := evComp_core (px := px) (pos := pos) ok IH hr h c
  unfold Gv
  rw [eval_ListComp]
  refine g (use := none) fun C D h4 tk4 m₀ k hn hC _ r => ?_
  exact ⟨m₀, hn, fun h5 hs5 => ⟨h5, tk4, rfl, fun b o e => hs5.extBut b o (fun q => by subst q; rw [hC] at e; cases e) (k b o e), r.but hn hs5⟩⟩

theorem evCall_sound (ok : CfgOk C prog w K p loose mg mb lvl) (IH : EvOk prog w K p loose mg mb lvl ih) (hr : Room lvl A) {f : Str} {es : List Expr} {v : V} {fp pos : Pos}
    (h : evCall C ih kd vars f es = some v) (c : Cx K p loose mg mb W env kd vars s.heap) : Gv prog w A W s (eval (.Call (.Name f fp) es [] pos) env) v := by
  unfold evCall at h
  split at h
  · rename_i hg
    obtain ⟨hg, hne⟩ := hg
    split at h
    · rename_i a ef
      rw [Option.bind_eq_some_iff] at h
      obtain ⟨vs, e1, e2⟩ := h
      exact call_fn ok IH hr hg hne ef e1 e2 c
    · split at h
      · rename_i hf
        subst hf
        split at h
        · split at h
          · rename_i hT
            rw [Option.bind_eq_some_iff] at h
            obtain ⟨u, e1, e2⟩ := h
            exact call_isi ok IH hr hg hT.1 hT.2 e1 e2 c
          · cases h
        · cases h
      · split at h
        · rename_i hf
          subst hf
          split at h
          · rename_i r rp as ap
            split at h
            · rename_i hr'
              obtain ⟨hg2, rfl, _⟩ := hr'
              rw [Option.map_eq_some_iff] at h
              obtain ⟨xs, h, rfl⟩ := h
              rw [Option.bind_eq_some_iff] at h
              obtain ⟨vs, e1, e2⟩ := h
              unfold Gv
              refine wpAny_Call_NameR (name_builtin hg c (ok.free _ (mem_free (by simp))) PyProof.Rows.boot_list (by decide) ?_)
              have hns : ∀ y ∈ [Expr.Call (.Name "range" rp) as [] ap], notStar y = true := fun y hy => by simp at hy; subst hy; rfl
              refine PySem.callWith_type (plain_args hns) (evalArgs_of (by simp) hns ?_)
              rw [starEach_not rfl]
              refine Calls.spliced_cons (eval_range ok IH hr hg2 e1 e2 c fun r a b d t u v h' tk' hok hx k hR => Calls.spliced_nil ?_)
              subst hx
              exact (list_of_range (s := { s with heap := h', toks := tk' }) hr.hh (c.keeps k).hW hok hR).from k
            · cases h
          · cases h
        · split at h
          · rename_i fv ef
            rw [Option.bind_eq_some_iff] at h
            obtain ⟨vs, e1, e2⟩ := h
            exact call_bi ok IH hr hg hne ef e1 e2 c
          · cases h
  · cases h

theorem evPart_sound (IH : EvOk prog w K p loose mg mb lvl ih) (hr : Room lvl A) {oe : Option Expr} {v : V} (h : evPart ih kd vars oe = some v) (c : Cx K p loose mg mb W env kd vars s.heap) : Gv prog w A W s (evalPart oe env) v := by
  cases oe with
  | none => cases h; exact wpAny_pure (here0 .none)
  | some e => exact (IH kd vars e v).1 h A s W env hr c
end
end Mine
namespace Mine

theorem pairV_some : ∀ {xs ys : List V}, pairV xs = some ys → ys.length = xs.length ∧ ∀ (i : Nat) x, xs[i]? = some x → ∃ u v, x = .tup [u, v] ∧ ys[i]? = some v
  | [], ys, h => by cases h; exact ⟨rfl, by simp⟩
  | .tup [u, v] :: xs, ys, h => by
    simp only [pairV, Option.bind_eq_some_iff] at h
    obtain ⟨zs, h1, h2⟩ := h
    cases h2
    obtain ⟨a, b⟩ := pairV_some h1
    refine ⟨by simp [a], fun i x hx => ?_⟩
    cases i with
    | zero => cases hx; exact ⟨u, v, rfl, rfl⟩
    | succ i => simpa using b i x (by simpa using hx)

section
variable {prog : Program} {w : World} {A : Around} {s : Shared}

noncomputable def PInv (s : Shared) (h₂ : Heap) (vs : List V) (W : List Addr) (I D C a : Addr) (items : Array Value) (k : Nat) (s' : Shared) : Prop :=
  ∃ h' tk i acc m, s' = { s with heap := h', toks := tk } ∧ i ≤ vs.length ∧ k = vs.length + 1 - i ∧ h'.IsListIter I a i ∧ h'.IsList a items ∧ h'.Ns C m ∧ h'.PlainList D acc ∧ VReps (D :: W) h' (vs.take i) acc.toList ∧ (∀ b o, h₂.get? b = some o → b ≠ I → h'.get? b = some o)

theorem pair_sound {W : List Addr} {env : Env} {iter : Expr} {a b : Str} {yp ap bp tp pos : Pos} {kk : Nat} {scope : Scope} {xs vs : List V} (hW : ∀ a ∈ W, ∃ o, s.heap.get? a = some o) (hh : A.handled = none)
    (hkind : scope.kind = .function) (hnames : ∀ z ∈ scope.names, z.2 = .local ∧ scope.names.lookup z.1 = some .local) (hxa : scope.names.lookup a = some .local) (hxb : scope.names.lookup b = some .local) (hab : ¬ a = b) (hdb : (b == ("__debug__" : Str)) = false)
    (hset : ∀ v, foldedSetIterable iter env v = pure v) (g : Gv prog w A W s (eval iter env) (.list xs)) (hp : pairV xs = some vs) (hlen : xs.length ≤ 2 ^ 20) :
    Gv prog w A W s (eval (.ListComp (.Name b yp) [⟨.Tuple [.Name a ap, .Name b bp] kk tp, iter, [], 0⟩] scope pos) env) (.list vs) := by
  obtain ⟨hvl, hpe⟩ := pairV_some hp
  have hnf : ∀ n, (n, NameKind.free) ∉ scope.names := fun n hn => by have := (hnames _ hn).1; cases this
  have hnc : ∀ z ∈ scope.names, z.2 ≠ .cell := fun z hz q => by rw [(hnames z hz).1] at q; cases q
  obtain ⟨cl, hcl, _⟩ := closure_of (env := env) (scope := scope) (fun n hn => absurd hn (hnf n))
  unfold Gv
  rw [eval_ListComp]
  refine wpAny_comprehension_free (use := none) rfl hset hcl hkind (fun z hz _ => (hnames z hz).2) (g.bindQ fun xv h1 tk1 k1 r1 => ?_)
  obtain ⟨_, l, items, rfl, hl, pl, rl⟩ := r1.toList
  have hil := rl.length
  rw [Array.length_toList] at hil
  have hll : l < h1.objs.size := by obtain ⟨n, e⟩ := pl; exact Heap.lt_size e
  refine wpAny_pyIter_list (s := { s with heap := h1, toks := tk1 }) (PlainList.isList pl) ?_
  refine wpAny_newObj_type (newEnv_comp ?_)
  dsimp only
  obtain ⟨I, hI⟩ : ∃ I : Nat, h1.objs.size = I := ⟨_, rfl⟩
  simp only [Heap.size_push, hI]
  generalize hH3 : pushCells (((h1.push { cls := .type "list_iterator", data := .fields #[.ref l, .int 0 0] }).push { cls := .type "list", data := .seq ([] : List Value).toArray }).push { cls := .type "dict", data := .dict #[] }) scope.names = H3
  have s1 : (h1.push { cls := .type "list_iterator", data := .fields #[.ref l, .int 0 0] }).objs.size = I + 1 := by rw [Heap.size_push, hI]
  have s2 : ((h1.push { cls := .type "list_iterator", data := .fields #[.ref l, .int 0 0] }).push { cls := .type "list", data := .seq ([] : List Value).toArray }).objs.size = I + 1 + 1 := by rw [Heap.size_push, s1]
  have keep3 : ∀ b o, h1.get? b = some o → H3.get? b = some o := fun b o e => by
    rw [← hH3]; exact pushCells_keeps _ _ _ _ (Heap.get?_push_of_some _ (Heap.get?_push_of_some _ (Heap.get?_push_of_some _ e)))
  have hI3 : H3.IsListIter I l 0 := ⟨_, by
    rw [← hH3, ← hI]; exact pushCells_keeps _ _ _ _ (Heap.get?_push_of_some _ (Heap.get?_push_of_some _ (Heap.get?_push_size _ rfl))), rfl, rfl⟩
  have hD3 : H3.PlainList (I + 1) #[] := ⟨0, by
    rw [← hH3, ← s1]; exact pushCells_keeps _ _ _ _ (Heap.get?_push_of_some _ (Heap.get?_push_size _ rfl))⟩
  have hC3 : H3.Ns (I + 1 + 1) (fun _ => none) := by
    rw [← hH3, ← s2]; exact (Heap.Ns.new _ (.type "dict")).keeps (pushCells_keeps _ _)
  have hl3 : H3.IsList l items := PlainList.isList (by obtain ⟨n, e⟩ := pl; exact ⟨n, keep3 _ _ e⟩)
  clear hH3
  have lt1 : ∀ {b : Addr} {o : Obj}, h1.get? b = some o → @LT.lt Nat _ b I := fun e => hI ▸ Heap.lt_size e
  have freshS : ∀ b : Nat, I ≤ b → s.heap.get? b = none := fun b hb => by
    cases e : s.heap.get? b with
    | none => rfl
    | some o => have := ltN (lt1 (k1 b o e)); (first | lia | omega)
  have hlI : @LT.lt Nat _ l I := hI ▸ hll
  have kindN : ∀ z, scope.names.lookup z = some .local → (cenv1 scope env (I + 1 + 1) cl).kindOf z = some .local := fun z hz => lookup_relabel_local hz
  have loop : ∀ tk, codeAny (model prog w) A (.compLoop (.ListComp (.Name b yp) [⟨.Tuple [.Name a ap, .Name b bp] kk tp, iter, [], 0⟩] scope pos) 0 (.ref I) (.ref (I + 1 : Nat)) (cenv1 scope env (I + 1 + 1) cl))
      (compPost (model prog w) A (fun _ _ => False) none (fun x s' => ∃ h' tk', s' = { s with heap := h', toks := tk' } ∧ KeepsH s.heap h' ∧ VRep W h' (.list vs) x) (.ref (I + 1 : Nat)) (I + 1 + 1)) { s with heap := H3, toks := tk } := by
    intro tk
    refine kcp_loop (PInv s h1 vs W I (I + 1) (I + 1 + 1) l items) ?_ (vs.length + 1) ⟨H3, tk, 0, #[], _, rfl, Nat.zero_le _, rfl, hI3, hl3, hC3, hD3, .nil, fun b o e _ => keep3 b o e⟩
    rintro k s' ⟨h', tk', i, acc, m, rfl, hi, rfl, hit, hli, hns, hpl, hacc, hk⟩
    have Wk := Walks.list (prog := prog) (w := w) (A := A) hh I l (Nat.ne_of_lt hlI) items
    by_cases hlt : i < vs.length
    · refine Wk.item i _ _ _ (by (first | lia | omega)) ⟨hit, hli⟩ fun v h4 tk4 hPv ⟨hit4, hli4⟩ hk4 => ?_
      have keep4 : ∀ b o, h1.get? b = some o → b ≠ I → h4.get? b = some o := fun b o e hb => hk4 b o (by simpa using hb) (hk b o e hb)
      have exi : xs[i]? = some (xs[i]'(by (first | lia | omega))) := List.getElem?_eq_getElem (by (first | lia | omega))
      obtain ⟨u, vv, hx, hv⟩ := hpe i _ exi
      rw [hx] at exi
      obtain ⟨z, ez, rz⟩ := rl.get exi
      rw [Array.getElem?_toList, hPv] at ez
      cases ez
      obtain ⟨T, ti, rfl, hT, pT, rT⟩ := rz.toTup
      obtain ⟨x1, r, e1, ru, rr⟩ := rT.uncons
      obtain ⟨x2, r, rfl, rv, rr⟩ := rr.uncons
      have := rr.unnil; subst this
      have hti : ti = #[x1, x2] := Array.ext' (by rw [e1])
      subst hti
      have pT4 : h4.IsTuple T #[x1, x2] := by
        obtain ⟨o, eo, hc, hd⟩ := pT
        exact ⟨o, keep4 _ _ eo (Nat.ne_of_lt (lt1 eo)), hc, hd⟩
      have hCne : ∀ b : Nat, b < I → b ≠ I + 1 + 1 := fun b hb => by (first | lia | omega)
      have ns4 : h4.Ns (I + 1 + 1) m := hns.at' fun o e => hk4 _ o (by rw [List.mem_singleton]; exact fun q => absurd q (by show ¬ (I + 1 + 1 : Nat) = I; (first | lia | omega))) e
      have pl4 : h4.PlainList (I + 1) acc := by obtain ⟨n, e⟩ := hpl; exact ⟨n, hk4 _ _ (by rw [List.mem_singleton]; exact fun q => absurd q (by show ¬ (I + 1 : Nat) = I; (first | lia | omega))) e⟩
      have acc4 : VReps ((I + 1 : Nat) :: W) h4 (vs.take i) acc.toList := by
        refine hacc.mono (fun _ m => .inl m) fun b o _ e hq => hk4 b o ?_ e
        rw [List.mem_singleton]
        rintro rfl
        obtain ⟨o', e1, e2, e3⟩ := hit
        obtain ⟨its, n, hq⟩ := hq
        rw [e1] at e; cases e
        rw [e3] at hq; cases hq
      refine wpAny_letOwnedTupleGo_listiter (s := { s with heap := h4, toks := tk4 }) hit4 ?_
      refine kcp_assign (env := cenv1 scope env (I + 1 + 1) cl) (s := { s with heap := h4, toks := tk4 }) hh pT4 (kindN a hxa) (kindN b hxb) (by rw [show (cenv1 scope env (I + 1 + 1) cl).scope.kind = .function from hkind]; rfl) ns4 fun h5 tk5 ns5 k5 => ?_
      have k5' : ∀ b o, b ≠ (I + 1 + 1 : Nat) → h4.get? b = some o → h5.get? b = some o := k5
      refine wpAny_Name (wpAny_loadName_local (v := x2) hkind (kindN b hxb) ns5 (by simp) ?_) hdb
      have keep5 : ∀ b o, h1.get? b = some o → b ≠ I → h5.get? b = some o := fun b o e hb => k5' b o (by have := lt1 e; intro q; subst q; exact absurd (ltN this) (by (first | lia | omega))) (keep4 b o e hb)
      have pl5 : h5.PlainList (I + 1) acc := by obtain ⟨n, e⟩ := pl4; exact ⟨n, k5' _ _ (by show ¬ (I + 1 : Nat) = I + 1 + 1; (first | lia | omega)) e⟩
      have hsz : acc.size ≤ sizeLine := by
        have := hacc.length
        rw [Array.length_toList] at this
        have h10 := List.length_take_le i vs
        rw [sizeLine_eq, this]; (first | lia | omega)
      have seqC : ∀ b o, h4.get? b = some o → isSeqObj o → b ≠ (I + 1 + 1 : Nat) := fun b o e hq q => by
        subst q
        obtain ⟨o', es, ep, e1, e2, _⟩ := ns4
        obtain ⟨its, n, hq⟩ := hq
        rw [e1] at e; cases e
        rw [e2] at hq; cases hq
      refine wpAny_list_append_plain (s := { s with heap := h5, toks := tk5 }) (hsz := hsz) pl5 fun h6 hp6 hs6 => ?_
      have DW : ∀ b : Addr, b ∈ W → b ≠ (I + 1 : Nat) := fun b hb q => by
        subst q
        obtain ⟨o, e⟩ := hW _ hb
        rw [freshS _ (by (first | lia | omega))] at e; cases e
      refine ⟨vs.length + 1 - (i + 1), by (first | lia | omega), h6, tk5, i + 1, acc.push x2, _, rfl, hlt, rfl, ?_, ?_, ns5.sameBut hs6 (by show ¬ (I + 1 + 1 : Nat) = I + 1; (first | lia | omega)), hp6, ?_, fun b o e hb => hs6.extBut b o (by have := lt1 e; intro q; subst q; exact absurd (ltN this) (by (first | lia | omega))) (keep5 b o e hb)⟩
      · obtain ⟨o, e1, e2, e3⟩ := hit4
        exact ⟨o, hs6.extBut _ _ (by show ¬ (I : Nat) = I + 1; (first | lia | omega)) (k5' _ _ (by show ¬ (I : Nat) = I + 1 + 1; (first | lia | omega)) e1), e2, e3⟩
      · obtain ⟨o, e1, e2⟩ := hli4
        exact ⟨o, hs6.extBut _ _ (fun q => by have := q ▸ hlI; exact absurd (ltN this) (by (first | lia | omega))) (k5' _ _ (fun q => by have := q ▸ hlI; exact absurd (ltN this) (by (first | lia | omega))) e1), e2⟩
      · rw [Array.toList_push, List.take_add_one, hv]
        have r4 : VRep ((I + 1 : Nat) :: W) h4 vv x2 := rv.mono (fun b hb => by
          rcases List.mem_cons.mp hb with rfl | hb
          · right
            cases e : h1.get? (I + 1 : Nat) with
            | none => rfl
            | some o => have := ltN (lt1 e); (first | lia | omega)
          · exact .inl hb) fun b o _ e _ => keep4 b o e (Nat.ne_of_lt (lt1 e))
        refine (VReps.append acc4 (.one r4)).mono (fun _ m => .inl m) fun b o hb e hq => hs6.extBut b o (fun q => by subst q; simp at hb) (k5' b o (seqC b o e hq) e)
    · have hin : i = vs.length := Nat.le_antisymm hi (Nat.not_lt.mp hlt)
      subst hin
      refine Wk.done _ _ _ (by rw [hil, ← hvl]; exact ⟨hit, hli⟩) fun h4 tk4 hk4 => ?_
      have hCm : (I + 1 + 1 : Nat) ∉ [(I : Nat)] := by rw [List.mem_singleton]; (first | lia | omega)
      have ns4 : h4.Ns (I + 1 + 1 : Nat) m := hns.at' fun o e => hk4 _ o hCm e
      have pl4 : h4.PlainList (I + 1 : Nat) acc := by obtain ⟨n, e⟩ := hpl; exact ⟨n, hk4 _ _ (by rw [List.mem_singleton]; exact fun q => absurd q (by show ¬ (I + 1 : Nat) = I; (first | lia | omega))) e⟩
      have acc4 : VReps ((I + 1 : Nat) :: W) h4 (vs.take vs.length) acc.toList := by
        refine hacc.mono (fun _ m => .inl m) fun b o _ e hq => hk4 b o ?_ e
        rw [List.mem_singleton]
        rintro rfl
        obtain ⟨o', e1, e2, e3⟩ := hit
        obtain ⟨its, n, hq⟩ := hq
        rw [e1] at e; cases e
        rw [e3] at hq; cases hq
      rw [List.take_length] at acc4
      have hDW : (I + 1 : Nat) ∉ W := fun hm => by obtain ⟨o, e⟩ := hW _ hm; rw [freshS _ (by (first | lia | omega))] at e; cases e
      have rep : VRep W h4 (.list vs) (.ref (I + 1 : Nat)) := .list (by (first | lia | omega)) hDW pl4 (acc4.mono (fun a m => .inl (List.mem_cons_of_mem _ m)) fun b o _ e _ => e)
      have ks : KeepsH s.heap h4 := fun b o e => hk4 b o (by rw [List.mem_singleton]; exact fun q => by have := lt1 (k1 b o e); rw [q] at this; exact absurd (ltN this) (Nat.lt_irrefl _)) (hk b o (k1 b o e) (Nat.ne_of_lt (lt1 (k1 b o e))))
      exact ⟨m, ns4, fun h5 hs5 => ⟨h5, tk4, rfl, fun b o e => hs5.extBut b o (fun q => by have := lt1 (k1 b o e); rw [q] at this; exact absurd (ltN this) (by (first | lia | omega))) (ks b o e), rep.but ns4 hs5⟩⟩
  exact codeAny_compStart_list (loop _) (Walks.self (Walks.list (prog := prog) (w := w) (A := A) hh I l (Nat.ne_of_lt hlI) items) 0 _ _ _ ⟨hI3, hl3⟩ (loop _))
end
end Mine
namespace Mine
section
variable {C : Cfg} {prog : Program} {w : World} {K : Frag} {p : Program} {loose : List Str} {mg mb : Str → Option Value} {lvl : Nat}
variable {ih : EvTy} {A : Around} {s : Shared} {W : List Addr} {env : Env} {kd : Kd} {vars : Vars}

theorem slice_sound (IH : EvOk prog w K p loose mg mb lvl ih) (hr : Room lvl A) {v : Expr} {lo hi st : Option Expr} {sp pos : Pos} {a l h t r : V} {kl kh kt : Option Int} (e1 : ih false kd vars v = some a) (e2 : evPart ih kd vars lo = some l) (e3 : evPart ih kd vars hi = some h)
    (e4 : evPart ih kd vars st = some t) (o1 : optI l = some kl) (o2 : optI h = some kh) (o3 : optI t = some kt) (e5 : sliceV a kl kh kt = some r) (c : Cx K p loose mg mb W env kd vars s.heap) :
    Gv prog w A W s (eval (.Subscript v (.Slice lo hi st sp) pos) env) r := by
  unfold Gv
  refine Subscript_gen (((IH kd vars v a).1 e1 A s W env hr c).bindQ fun x h1 tk1 k1 r1 => wpAny_Slice ?_)
  refine (evPart_sound IH hr e2 (s := { s with heap := h1, toks := tk1 }) (c.keeps k1)).bindQ fun xl h2 tk2 k2 rl => ?_
  have k12 : KeepsH s.heap h2 := fun b o e => k2 b o (k1 b o e)
  refine (evPart_sound IH hr e3 (s := { s with heap := h2, toks := tk2 }) (c.keeps k12)).bindQ fun xh h3 tk3 k3 rh => ?_
  have k13 : KeepsH s.heap h3 := fun b o e => k3 b o (k12 b o e)
  refine (evPart_sound IH hr e4 (s := { s with heap := h3, toks := tk3 }) (c.keeps k13)).bindQ fun xt h4 tk4 k4 rt => ?_
  have k14 : KeepsH s.heap h4 := fun b o e => k4 b o (k13 b o e)
  have kp : KeepsH h4 (h4.push { cls := .type "slice", data := .fields #[xl, xh, xt] }) := fun b o e => Heap.get?_push_of_some _ e
  have k5 : KeepsH s.heap (h4.push { cls := .type "slice", data := .fields #[xl, xh, xt] }) := fun b o e => kp b o (k14 b o e)
  have k15 : KeepsH h1 h4 := fun b o e => k4 b o (k3 b o (k2 b o e))
  have r1' : VRep W (h4.push { cls := .type "slice", data := .fields #[xl, xh, xt] }) a x := (r1.keeps k15).keeps kp
  dsimp only at *
  refine ⟨getItem_type (s := { s with heap := h4.push { cls := .type "slice", data := .fields #[xl, xh, xt] }, toks := tk4 }) r1' (sliceV_kind e5), ?_⟩
  exact (sliceV_sound (s := { s with heap := h4.push { cls := .type "slice", data := .fields #[xl, xh, xt] }, toks := tk4 }) (c.keeps k5).hW e5 r1' o1 ((rl.keeps fun b o e => k4 b o (k3 b o e)).keeps kp) o2 ((rh.keeps k4).keeps kp) o3 (rt.keeps kp) (Heap.IsSliceOf.new h4 xl xh xt)).from k5

theorem name_var {x : Str} {v : V} {pos : Pos} (e : vars.lookup x = some v) (c : Cx K p loose mg mb W env kd vars s.heap) : Gv prog w A W s (eval (.Name x pos) env) v := by
  obtain ⟨val, n, r⟩ := c.er.vars x v e
  have hd : ∀ k, env.kindOf x = some k → (x == ("__debug__" : Str)) = false := fun k hk => by
    refine dbg_of ?_ c
    unfold Env.kindOf at hk
    rw [c.er.kd] at hk
    rw [hk]; rfl
  rcases n with ⟨hk, m, hn, hm⟩ | ⟨hk, cc, hcl, hcell⟩
  · exact wpAny_Name (wpAny_loadName_local c.er.fn hk hn hm (here0 r)) (hd _ hk)
  · exact wpAny_Name (wpAny_loadName_cell c.er.fn hk hcl hcell (here0 r)) (hd _ hk)

theorem set_marks {op : CmpOp} {r : Expr} (h : notSet r = true) : behindInMarks op r = false := by
  cases r <;> first | rfl | cases h

/-- compareOp, whole: the two sides of a comparison -/
theorem cmp_step (ok : CfgOk C prog w K p loose mg mb lvl) (IH : EvOk prog w K p loose mg mb lvl ih) (hr : Room lvl A) {l r : Expr} {op : CmpOp} {v : V} {pos : Pos} (e : evStep C ih kd vars (.Compare l [op] [r] pos) = some v) (c : Cx K p loose mg mb W env kd vars s.heap) :
    behindInMarks op r = false ∧ wpAny (model prog w) A (eval l env) (fun a s₁ => wpAny (model prog w) A (eval r env) (fun b s₂ => wpAny (model prog w) A (compareOp op a b) (fun x s' => ∃ h' tk', s' = { s with heap := h', toks := tk' } ∧ KeepsH s.heap h' ∧ VRep W h' v x) (fun _ _ => False) s₂) (fun _ _ => False) s₁) (fun _ _ => False) s := by
  change evCmp C ih kd vars l op r = some v at e
  unfold evCmp at e
  split at e
  · rename_i hs
    refine ⟨set_marks hs, ?_⟩
    split at e
    · rename_i es hD
      obtain ⟨d, q, rfl, hg, hd⟩ := dict_some hD
      obtain ⟨a, E, n, hn, hsys, hK, hlit, hfind⟩ := ok.dict d es hd
      split at e
      · rename_i hop
        cases op with
        | NotIn =>
          rw [Option.bind_eq_some_iff] at e
          obtain ⟨kv, e1, e⟩ := e
          split at e
          · rename_i x
            cases e
            refine ((IH kd vars l _).1 e1 A s W env hr c).bindQ fun y h1 tk1 k1 r1 => name_global (s := { s with heap := h1, toks := tk1 }) hg (c.keeps k1) hn ?_
            obtain ⟨_, t, rfl⟩ := r1.toStr
            have hx := hfind x
            have hq : (findBy Value.isStrOf E x).isSome = (es.lookup x).isSome := by
              cases hl : es.lookup x with
              | none => rw [hl] at hx; dsimp only at hx; rw [hx]; rfl
              | some i => rw [hl] at hx; dsimp only at hx; obtain ⟨t', hx⟩ := hx; rw [hx]; rfl
            refine wpAny_notIn_of (knd := strKind prog w) (strKind_is prog w x t) hsys (mapOf_K (c.keeps k1).gf.1 hK hlit) ?_
            rw [hq]
            exact ⟨h1, _, rfl, k1, .bool⟩
          · cases e
        | _ => cases hop
      · cases e
    · rw [Option.bind_eq_some_iff] at e
      obtain ⟨a, e1, e⟩ := e
      rw [Option.bind_eq_some_iff] at e
      obtain ⟨b, e2, e⟩ := e
      refine ((IH kd vars l a).1 e1 A s W env hr c).bindQ fun x h1 tk1 k1 r1 => ((IH kd vars r b).1 e2 A { s with heap := h1, toks := tk1 } W env hr (c.keeps k1)).bindQ fun y h2 tk2 k2 r2 => ?_
      exact (cmpV_sound (s := { s with heap := h2, toks := tk2 }) (by have := hr.units; (first | lia | omega)) e (r1.keeps k2) r2).from fun b o e => k2 b o (k1 b o e)
  · cases e

theorem evArgs_len {ih : EvTy} : ∀ {es : List Expr} {vs : List V}, evArgs ih kd vars es = some vs → vs.length = es.length
  | [], _, e => by cases e; rfl
  | x :: r, vs, e1 => by
    unfold evArgs at e1
    split at e1
    · rw [Option.bind_eq_some_iff] at e1
      obtain ⟨v1, _, e1⟩ := e1
      rw [Option.bind_eq_some_iff] at e1
      obtain ⟨us, e3, e1⟩ := e1
      cases e1
      rw [List.length_cons, List.length_cons, evArgs_len e3]
    · cases e1

set_option maxHeartbeats 1000000 in
theorem evStep_sound (ok : CfgOk C prog w K p loose mg mb lvl) (IH : EvOk prog w K p loose mg mb lvl ih) (hr : Room lvl A) {ex : Expr} {v : V} (e : evStep C ih kd vars ex = some v) (c : Cx K p loose mg mb W env kd vars s.heap) :
    Gv prog w A W s (eval ex env) v := by
  cases ex with
  | Constant cc k q =>
    unfold evStep at e
    dsimp only at e
    unfold constV at e
    split at e
    · cases e; exact wpAny_Constant_none (here0 .none)
    · cases e; exact wpAny_Constant_bool (here0 .bool)
    · cases e; exact wpAny_Constant_int (here .int)
    · obtain ⟨hl, rfl⟩ := ite_some e
      exact wpAny_Constant_str (here (.str hl))
    · cases e
  | Name nx nq =>
    unfold evStep at e
    dsimp only at e
    split at e
    · rename_i v' hv
      cases e
      exact name_var hv c
    · rename_i hv
      split at e
      · rename_i hk
        rw [Option.map_eq_some_iff] at e
        obtain ⟨i, e1, rfl⟩ := e
        obtain ⟨t, ht⟩ := ok.const _ _ e1
        exact name_global (by unfold isGlob; rw [hv]; simpa using hk) c ht (here0 .int)
      · cases e
  | BoolOp op bes q =>
    unfold evStep at e
    dsimp only at e
    split at e <;> try cases e
    rename_i a b
    unfold evBool at e
    rw [Option.bind_eq_some_iff] at e
    obtain ⟨va, e1, e⟩ := e
    rw [Option.bind_eq_some_iff] at e
    obtain ⟨t, e2, e⟩ := e
    unfold Gv
    cases op with
    | And =>
      refine wpAny_And2 (((IH kd vars a va).1 e1 A s W env hr c).bindQ fun x h1 tk1 k1 r1 => (truthV_sound (s := { s with heap := h1, toks := tk1 }) e2 r1).bindQ fun h2 tk2 k2 => ?_)
      have k12 : KeepsH s.heap h2 := fun b o e => k2 b o (k1 b o e)
      cases t with
      | true => simp only [if_true] at e ⊢; exact ((IH kd vars b v).1 e A { s with heap := h2, toks := tk2 } W env hr (c.keeps k12)).from k12
      | false =>
        simp only [Bool.false_eq_true, if_false, Option.some.injEq] at e ⊢
        subst e
        exact ⟨h2, tk2, rfl, k12, r1.keeps k2⟩
    | Or =>
      refine wpAny_Or2 (((IH kd vars a va).1 e1 A s W env hr c).bindQ fun x h1 tk1 k1 r1 => (truthV_sound (s := { s with heap := h1, toks := tk1 }) e2 r1).bindQ fun h2 tk2 k2 => ?_)
      have k12 : KeepsH s.heap h2 := fun b o e => k2 b o (k1 b o e)
      cases t with
      | false => simp only [Bool.false_eq_true, if_false] at e ⊢; exact ((IH kd vars b v).1 e A { s with heap := h2, toks := tk2 } W env hr (c.keeps k12)).from k12
      | true =>
        simp only [if_true, Option.some.injEq] at e ⊢
        subst e
        exact ⟨h2, tk2, rfl, k12, r1.keeps k2⟩
  | BinOp l op r q =>
    unfold evStep at e
    dsimp only at e
    rw [Option.bind_eq_some_iff] at e
    obtain ⟨a, e1, e⟩ := e
    rw [Option.bind_eq_some_iff] at e
    obtain ⟨b, e2, e⟩ := e
    refine wpAny_BinOp (((IH kd vars l a).1 e1 A s W env hr c).bindQ fun x h1 tk1 k1 r1 => ((IH kd vars r b).1 e2 A { s with heap := h1, toks := tk1 } W env hr (c.keeps k1)).bindQ fun y h2 tk2 k2 r2 => ?_)
    have k12 : KeepsH s.heap h2 := fun b o e => k2 b o (k1 b o e)
    exact (binV_sound (s := { s with heap := h2, toks := tk2 }) (c.keeps k12).hW e (r1.keeps k2) r2).from k12
  | UnaryOp op x q =>
    unfold evStep at e
    dsimp only at e
    rw [Option.bind_eq_some_iff] at e
    obtain ⟨a, e1, e⟩ := e
    refine wpAny_UnaryOp (((IH kd vars x a).1 e1 A s W env hr c).bindQ fun y h1 tk1 k1 r1 => ?_)
    exact (unV_sound (s := { s with heap := h1, toks := tk1 }) e r1).from k1
  | IfExp t b o q =>
    unfold evStep at e
    dsimp only at e
    rw [Option.bind_eq_some_iff] at e
    obtain ⟨tv, e1, e⟩ := e
    obtain ⟨bb, rfl, g⟩ := (IH kd vars t tv).2 e1
    refine wpAny_IfExp ((g A s W env hr c).bindQ fun h1 tk1 k1 => ?_)
    cases bb with
    | true => exact ((IH kd vars b v).1 e A { s with heap := h1, toks := tk1 } W env hr (c.keeps k1)).from k1
    | false => exact ((IH kd vars o v).1 e A { s with heap := h1, toks := tk1 } W env hr (c.keeps k1)).from k1
  | List es q =>
    unfold evStep at e
    dsimp only at e
    split at e
    · rename_i hl
      rw [Option.map_eq_some_iff] at e
      obtain ⟨vs, e1, rfl⟩ := e
      refine wpAny_List ((evArgs_sound IH hr e1 c).bindQ fun xs h1 tk1 k1 r1 => ?_)
      have hlen := evArgs_len e1
      refine ⟨by rw [sizeLine_eq, r1.length]; (first | lia | omega), ?_⟩
      obtain ⟨h2, tk2, e2, k2, r2⟩ := new_list (s := { s with heap := h1, toks := tk1 }) (tk' := tk1) (by (first | lia | omega)) (c.keeps k1).hW r1
      exact ⟨h2, tk2, e2, fun b o e => k2 b o (k1 b o e), r2⟩
    · cases e
  | Tuple es k q =>
    unfold evStep at e
    dsimp only at e
    split at e
    · rename_i hl
      rw [Option.map_eq_some_iff] at e
      obtain ⟨vs, e1, rfl⟩ := e
      refine wpAny_Tuple ((evArgs_sound IH hr e1 c).bindQ fun xs h1 tk1 k1 r1 => ?_)
      have hlen := evArgs_len e1
      refine ⟨by rw [sizeLine_eq, r1.length]; (first | lia | omega), ?_⟩
      obtain ⟨h2, tk2, e2, k2, r2⟩ := new_tup (s := { s with heap := h1, toks := tk1 }) (tk' := tk1) (c.keeps k1).hW r1
      exact ⟨h2, tk2, e2, fun b o e => k2 b o (k1 b o e), r2⟩
    · cases e
  | Compare l cops crs q =>
    unfold evStep at e
    dsimp only at e
    split at e <;> try cases e
    split at e <;> try cases e
    rename_i op _ r
    obtain ⟨hm, g⟩ := cmp_step (pos := q) ok IH hr (v := v) e c
    exact wpAny_Compare1 g hm
  | Subscript vv i q =>
    unfold evStep at e
    dsimp only at e
    unfold evSub at e
    split at e
    · rename_i d hd
      obtain ⟨q2, rfl⟩ := dispE?_some hd
      unfold evDisp at e
      rw [Option.bind_eq_some_iff] at e
      obtain ⟨es, e1, e⟩ := e
      split at e
      · rename_i hh
        rw [Option.bind_eq_some_iff] at e
        obtain ⟨kv, e2, e⟩ := e
        split at e
        · rename_i x
          rw [Option.map_eq_some_iff] at e
          obtain ⟨j, e3, rfl⟩ := e
          exact disp_item e1 hh.1 hh.2.1 hh.2.2 e3 (fun s' c' => (IH kd vars i _).1 e2 A s' W env hr c') c
        · cases e
      · cases e
    · split at e
      · rename_i t ht
        obtain ⟨sp, rfl⟩ := sliceE?_some ht
        unfold evSlice at e
        simp only [Option.bind_eq_some_iff] at e
        obtain ⟨a, e1, l, e2, h, e3, t, e4, kl, o1, kh, o2, kt, o3, e5⟩ := e
        exact slice_sound IH hr e1 e2 e3 e4 o1 o2 o3 e5 c
      · simp only [Option.bind_eq_some_iff] at e
        obtain ⟨a, e1, k, e2, e3⟩ := e
        refine Subscript_gen (((IH kd vars vv a).1 e1 A s W env hr c).bindQ fun x h1 tk1 k1 r1 => ((IH kd vars i k).1 e2 A { s with heap := h1, toks := tk1 } W env hr (c.keeps k1)).bindQ fun y h2 tk2 k2 r2 => ?_)
        have k12 : KeepsH s.heap h2 := fun b o e => k2 b o (k1 b o e)
        exact ⟨getItem_type (s := { s with heap := h2, toks := tk2 }) (r1.keeps k2) (idxV_kind e3), (idxV_sound (s := { s with heap := h2, toks := tk2 }) e3 (r1.keeps k2) r2).from k12⟩
  | Call cf cargs ckws cpos =>
    unfold evStep at e
    dsimp only at e
    split at e <;> try cases e
    unfold evCallE at e
    split at e
    · rename_i hf
      obtain ⟨fp, rfl⟩ := nameE?_some hf
      exact evCall_sound ok IH hr e c
    · rw [Option.bind_eq_some_iff] at e
      obtain ⟨t, ht, e⟩ := e
      cases attrE?_some ht
      split at e
      · rename_i hh
        exact evMeth_sound ok IH hr hh.1 hh.2 e c
      · cases e
  | ListComp elt cgens scope q =>
    unfold evStep at e
    dsimp only at e
    split at e <;> try cases e
    rename_i t iter ifs k
    split at e
    · rename_i hk
      cases beq_iff_eq.mp hk
      unfold evLC at e
      split at e
      · rename_i x hx
        obtain ⟨xp, rfl⟩ := nameE?_some hx
        exact evComp_sound ok IH hr e c
      · split at e
        · rename_i hifs
          cases ifs with
          | cons _ _ => cases hifs
          | nil =>
          rw [Option.bind_eq_some_iff] at e
          obtain ⟨y, hy, e⟩ := e
          rw [Option.bind_eq_some_iff] at e
          obtain ⟨⟨a, b⟩, hab, e⟩ := e
          rw [Option.bind_eq_some_iff] at hab
          obtain ⟨es, htt, hab⟩ := hab
          obtain ⟨yp, rfl⟩ := nameE?_some hy
          obtain ⟨kk, tp, rfl⟩ := tupE?_some htt
          unfold pairT? at hab
          split at hab <;> try cases hab
          rw [Option.bind_eq_some_iff] at hab
          obtain ⟨a', ha, hab⟩ := hab
          rw [Option.map_eq_some_iff] at hab
          obtain ⟨b', hb, hab⟩ := hab
          cases hab
          obtain ⟨ap, rfl⟩ := nameE?_some ha
          obtain ⟨bp, rfl⟩ := nameE?_some hb
          unfold evPair at e
          split at e
          · rename_i hc
            obtain ⟨hc, hs⟩ := hc
            unfold pairOk at hc
            simp only [Bool.and_eq_true, beq_iff_eq, List.all_eq_true, Bool.not_eq_true', beq_eq_false_iff_ne, ne_eq] at hc
            obtain ⟨⟨⟨⟨⟨⟨h1, h2⟩, h3⟩, h4⟩, h5⟩, rfl⟩, h6⟩ := hc
            rw [Option.bind_eq_some_iff] at e
            obtain ⟨u, e1, e⟩ := e
            split at e
            · rename_i xs
              split at e
              · rename_i hl
                rw [Option.map_eq_some_iff] at e
                obtain ⟨vs, e2, rfl⟩ := e
                exact pair_sound c.hW hr.hh h1 (fun z hz => h2 z hz) h3 h4 h5 (by simpa using h6) (set_not hs) ((IH kd vars iter _).1 e1 A s W env hr c) e2 hl
              · cases e
            · cases e
          · cases e
        · cases e
    · cases e
  | _ => cases e
end
end Mine
namespace Mine
section
variable {C : Cfg} {prog : Program} {w : World} {K : Frag} {p : Program} {loose : List Str} {mg mb : Str → Option Value} {lvl : Nat}
variable {ih : EvTy} {A : Around} {s : Shared} {W : List Addr} {env : Env} {kd : Kd} {vars : Vars}

theorem allT_sound (IH : EvOk prog w K p loose mg mb lvl ih) (hr : Room lvl A) {op : BoolOp} : ∀ {es : List Expr} {v : V} {s : Shared}, allT ih kd vars op es = some v → Cx K p loose mg mb W env kd vars s.heap →
    ∃ b, v = .bool b ∧ GvB prog w A s (allTrue op es env) b
  | [], v, s, e, c => by
    cases e
    exact ⟨_, rfl, wpAny_pure ⟨rfl, s.heap, s.toks, rfl, fun _ _ e => e⟩⟩
  | x :: r, v, s, e, c => by
    unfold allT at e
    rw [Option.bind_eq_some_iff] at e
    obtain ⟨bv, e1, e⟩ := e
    obtain ⟨b, rfl, g⟩ := (IH kd vars x bv).2 e1
    have g := g A s W env hr c
    have rest : ∀ h1 tk1, KeepsH s.heap h1 → allT ih kd vars op r = some v → ∃ b', v = .bool b' ∧ wpAny (model prog w) A (allTrue op r env) (fun x s' => x = b' ∧ ∃ h' tk', s' = { s with heap := h', toks := tk' } ∧ KeepsH s.heap h') (fun _ _ => False) { s with heap := h1, toks := tk1 } :=
      fun h1 tk1 k1 e => let ⟨b', hb, g'⟩ := allT_sound IH hr (s := { s with heap := h1, toks := tk1 }) e (c.keeps k1); ⟨b', hb, g'.from k1⟩
    cases op with
    | And =>
      cases b with
      | false =>
        cases e
        exact ⟨false, rfl, wpAny_allTrue_And_cons (g.bindQ fun h1 tk1 k1 => ⟨rfl, h1, tk1, rfl, k1⟩)⟩
      | true =>
        obtain ⟨b', rfl, _⟩ := rest s.heap s.toks (fun _ _ e => e) e
        refine ⟨b', rfl, wpAny_allTrue_And_cons (g.bindQ fun h1 tk1 k1 => ?_)⟩
        obtain ⟨b'', hb, g'⟩ := rest h1 tk1 k1 e
        cases hb
        exact g'
    | Or =>
      cases b with
      | true =>
        cases e
        exact ⟨true, rfl, wpAny_allTrue_Or_cons (g.bindQ fun h1 tk1 k1 => ⟨rfl, h1, tk1, rfl, k1⟩)⟩
      | false =>
        obtain ⟨b', rfl, _⟩ := rest s.heap s.toks (fun _ _ e => e) e
        refine ⟨b', rfl, wpAny_allTrue_Or_cons (g.bindQ fun h1 tk1 k1 => ?_)⟩
        obtain ⟨b'', hb, g'⟩ := rest h1 tk1 k1 e
        cases hb
        exact g'

theorem tstStep_sound (ok : CfgOk C prog w K p loose mg mb lvl) (IH : EvOk prog w K p loose mg mb lvl ih) {ex : Expr} {v : V} (e : tstStep C ih kd vars ex = some v) :
    ∃ b, v = .bool b ∧ ∀ A s W env, Room lvl A → Cx K p loose mg mb W env kd vars s.heap → GvB prog w A s (isTrue ex env (eval ex env)) b := by
  have valE : tstVal C ih kd vars ex = some v → (∀ op x q, ex = .UnaryOp op x q → (op == .Not) = false) → boolE? ex = none → isIfE ex = false → ∃ b, v = .bool b ∧ ∀ A s W env, Room lvl A → Cx K p loose mg mb W env kd vars s.heap → GvB prog w A s (isTrue ex env (eval ex env)) b := fun e hn hb hi => by
    unfold tstVal at e
    rw [Option.bind_eq_some_iff] at e
    obtain ⟨u, e1, e⟩ := e
    rw [Option.map_eq_some_iff] at e
    obtain ⟨b, e2, rfl⟩ := e
    refine ⟨b, rfl, fun A s W env hr c => ?_⟩
    have val : GvB prog w A s (do let x ← eval ex env; standAt ex.pos; holding [x] (truthy x)) b := by
      refine wpAny_bind ((evStep_sound ok IH hr e1 c).bindQ fun x h1 tk1 k1 r1 => wpAny_bind (wpAny_standAt (wpAny_holding ?_)))
      exact (truthV_sound (s := { s with heap := h1, toks := tk1 }) e2 r1).from k1
    cases ex with
    | UnaryOp op x q =>
      cases op with
      | Not => cases hn _ _ _ rfl
      | _ => exact val
    | BoolOp op es q => cases hb
    | IfExp a b c q => cases hi
    | Compare l ops rs q =>
      unfold evStep at e1
      dsimp only at e1
      split at e1 <;> try cases e1
      split at e1 <;> try cases e1
      obtain ⟨hm, g⟩ := cmp_step (pos := q) ok IH hr (v := u) e1 c
      refine wpAny_isTrue_Compare1 (wpAny_mono g (fun a s₁ g => wpAny_mono g (fun b' s₂ g => wpAny_mono g (fun x s₃ q => ?_) fun _ _ f => f) fun _ _ f => f) fun _ _ f => f) hm
      obtain ⟨h1, tk1, rfl, k1, r1⟩ := q
      exact (truthV_sound (s := { s with heap := h1, toks := tk1 }) e2 r1).from k1
    | _ => exact val
  unfold tstStep at e
  split at e
  · rename_i cc hbe
    obtain ⟨op, es⟩ := cc
    obtain ⟨q, rfl⟩ := boolE?_some hbe
    dsimp only at e
    have key : ∃ b, v = .bool b := by
      clear IH ok hbe valE
      induction es with
      | nil => cases e; exact ⟨_, rfl⟩
      | cons x r ih' =>
        unfold allT at e
        rw [Option.bind_eq_some_iff] at e
        obtain ⟨bv, e1, e⟩ := e
        split at e
        · cases e; exact ⟨_, rfl⟩
        · exact ih' e
        · cases e; exact ⟨_, rfl⟩
        · exact ih' e
        · cases e
    obtain ⟨b, rfl⟩ := key
    refine ⟨b, rfl, fun A s W env hr c => wpAny_isTrue_BoolOp ?_⟩
    obtain ⟨b', hb, g⟩ := allT_sound IH hr e c
    cases hb
    exact g
  · rename_i hb
    split at e
    · rename_i uu hu
      obtain ⟨op, x⟩ := uu
      obtain ⟨q, rfl⟩ := negE?_some hu
      dsimp only at e
      split at e
      · rename_i hop
        cases op with
        | Not =>
          rw [Option.bind_eq_some_iff] at e
          obtain ⟨bv, e1, e⟩ := e
          obtain ⟨b, rfl, g⟩ := (IH kd vars x bv).2 e1
          cases e
          exact ⟨_, rfl, fun A s W env hr c => wpAny_isTrue_Not ((g A s W env hr c).bindQ fun h1 tk1 k1 => ⟨rfl, h1, tk1, rfl, k1⟩)⟩
        | _ => cases hop
      · rename_i hop
        exact valE e (fun op' x' q' he => by cases he; simpa using hop) hb rfl
    · rename_i hu
      split at e
      · cases e
      · rename_i hi
        exact valE e (fun op' x' q' he => by subst he; cases hu) hb (by simpa using hi)

theorem ev_sound (ok : CfgOk C prog w K p loose mg mb lvl) : ∀ n, EvOk prog w K p loose mg mb lvl (ev C n)
  | 0 => fun kd vars e v => ⟨fun h => by simp [ev] at h, fun h => by simp [ev] at h⟩
  | n + 1 => fun kd vars e v => ⟨fun h A s W env hr c => evStep_sound ok (ev_sound ok n) hr h c, fun h => tstStep_sound ok (ev_sound ok n) h⟩
end
end Mine
namespace Mine

structure St where
  vars : Vars
  own : Option (Str × List V) := none

noncomputable def setV (x : Str) (v : V) : Vars → Vars
  | [] => [(x, v)]
  | (y, u) :: r => if (x == y) = true then (y, v) :: r else (y, u) :: setV x v r
theorem setV_lookup (x : Str) (v : V) (y : Str) : ∀ l : Vars, (setV x v l).lookup y = if (y == x) = true then some v else l.lookup y
  | [] => by
    unfold setV
    rw [List.lookup_cons, List.lookup_nil]
    cases y == x <;> rfl
  | (z, u) :: r => by
    unfold setV
    by_cases hz : (x == z) = true
    · have := beq_iff_eq.mp hz; subst this
      rw [if_pos hz, List.lookup_cons, List.lookup_cons]
      cases y == x <;> rfl
    · rw [if_neg hz, List.lookup_cons, List.lookup_cons, setV_lookup x v y r]
      cases hy : y == z with
      | true =>
        have := beq_iff_eq.mp hy; subst this
        have : (y == x) = false := by
          cases h : y == x with
          | false => rfl
          | true => have := beq_iff_eq.mp h; subst this; simp at hz
        rw [this]; rfl
      | false => rfl
/-- the name is no own list from here on -/
noncomputable def St.set (σ : St) (x : Str) (v : V) : St := ⟨setV x v σ.vars, match σ.own with | some (y, xs) => if (y == x) = true then none else some (y, xs) | none => none⟩
noncomputable def St.setOwn (σ : St) (x : Str) (xs : List V) : St := ⟨σ.vars.filter fun p => !(p.1 == x), some (x, xs)⟩
noncomputable def St.view (σ : St) : Vars := match σ.own with | some (x, xs) => (x, .list xs) :: σ.vars | none => σ.vars

noncomputable def slotV (env : Env) (m cm : Str → Option Value) (x : Str) : Option Value :=
  if env.kindOf x = some .local then m x else if env.kindOf x = some .cell then cm x else none

structure SAt (s₀ : Shared) (W Wf : List Addr) (env : Env) (m cm : Str → Option Value) (σ : St) (s : Shared) : Prop where
  ic : InCallC s₀ env.locals m env.cells cm s
  vars : ∀ x v, σ.vars.lookup x = some v → ∃ val, slotV env m cm x = some val ∧ VRep (Wf ++ W) s.heap v val
  own : match σ.own with
    | none => Wf = []
    | some (x, xs) => ∃ a items, Wf = [a] ∧ slotV env m cm x = some (.ref a) ∧ s.heap.PlainList a items ∧ VReps (Wf ++ W) s.heap xs items.toList ∧ s₀.heap.get? a = none ∧ xs.length ≤ 2 ^ 20
/-- objects of the frame's own time that no statement here touches -/
noncomputable def PkOk (Pk : List (Addr × Obj)) (env : Env) (Wf : List Addr) (h : Heap) : Prop :=
  ∀ q ∈ Pk, h.get? q.1 = some q.2 ∧ q.1 ≠ env.locals ∧ (∀ n c, env.cells.lookup n = some c → q.1 ≠ c) ∧ q.1 ∉ Wf
noncomputable def SRep (s₀ : Shared) (W : List Addr) (Pk : List (Addr × Obj)) (env : Env) (σ : St) (s : Shared) : Prop := ∃ Wf m cm, SAt s₀ W Wf env m cm σ s ∧ PkOk Pk env Wf s.heap
theorem PkOk.keeps {Pk env Wf h h'} (k : KeepsH h h') (P : PkOk Pk env Wf h) : PkOk Pk env Wf h' := fun q hq => let ⟨a, b⟩ := P q hq; ⟨k _ _ a, b⟩

/-- what a def's frame is, once for all -/
structure FrOk (K : Frag) (p : Program) (loose : List Str) (mg mb : Str → Option Value) (s₀ : Shared) (W : List Addr) (env : Env) (kd : Kd) : Prop where
  gf : GF K p loose mg mb s₀.heap
  hW : ∀ a ∈ W, ∃ o, s₀.heap.get? a = some o
  fn : env.scope.kind = .function
  gl : env.globals = mainGlobals
  bl : env.builtins = builtinsNs
  kdE : env.scope.names = kd
  dbg : kd.lookup ("__debug__" : Str) = none
  cells : ∀ n, kd.lookup n = some .cell → (env.cells.lookup n).isSome = true

section
variable {K : Frag} {p : Program} {loose : List Str} {mg mb : Str → Option Value} {s₀ s : Shared} {W Wf : List Addr} {env : Env} {kd : Kd} {m cm : Str → Option Value} {σ : St}

theorem SAt.Wex (S : SAt s₀ W Wf env m cm σ s) (F : FrOk K p loose mg mb s₀ W env kd) : ∀ a ∈ Wf ++ W, ∃ o, s.heap.get? a = some o := fun a ha => by
  rcases List.mem_append.mp ha with ha | ha
  · have := S.own
    split at this
    · rw [this] at ha; cases ha
    · obtain ⟨b, items, e, _, ⟨n, hp⟩, _⟩ := this
      rw [e] at ha; rw [List.mem_singleton.mp ha]; exact ⟨_, hp⟩
  · obtain ⟨o, e⟩ := F.hW a ha; exact ⟨o, S.ic.toInCall.keep _ _ e⟩
theorem slot_name (F : FrOk K p loose mg mb s₀ W env kd) (x : InCallC s₀ env.locals m env.cells cm s) {y : Str} {val : Value} (h : slotV env m cm y = some val) : NameIs s.heap env y val := by
  unfold slotV at h
  split at h
  · rename_i hk; exact .inl ⟨hk, m, x.toInCall.ns, h⟩
  · split at h
    · rename_i hk
      have : kd.lookup y = some .cell := by unfold Env.kindOf at hk; rw [F.kdE] at hk; exact hk
      obtain ⟨c, hc⟩ := Option.isSome_iff_exists.mp (F.cells y this)
      exact .inr ⟨hk, c, hc, h ▸ x.cell y c hc⟩
    · cases h
/-- the plain names -/
theorem SAt.cx (S : SAt s₀ W Wf env m cm σ s) (F : FrOk K p loose mg mb s₀ W env kd) : Cx K p loose mg mb (Wf ++ W) env kd σ.vars s.heap :=
  ⟨F.gf.keeps S.ic.toInCall.keep, ⟨F.fn, F.gl, F.bl, F.kdE, fun x v e => let ⟨val, a, b⟩ := S.vars x v e; ⟨val, slot_name F S.ic a, b⟩⟩, S.Wex F, F.dbg⟩
/-- with the own list among them: for what keeps no hold of it -/
theorem SAt.cxv (S : SAt s₀ W Wf env m cm σ s) (F : FrOk K p loose mg mb s₀ W env kd) : Cx K p loose mg mb W env kd σ.view s.heap := by
  refine ⟨F.gf.keeps S.ic.toInCall.keep, ⟨F.fn, F.gl, F.bl, F.kdE, fun x v e => ?_⟩, fun a ha => let ⟨o, e⟩ := F.hW a ha; ⟨o, S.ic.toInCall.keep _ _ e⟩, F.dbg⟩
  have sub : ∀ {v : V} {val : Value}, VRep (Wf ++ W) s.heap v val → VRep W s.heap v val := fun r => r.mono (fun a m => .inl (List.mem_append_right _ m)) fun _ _ _ e _ => e
  unfold St.view at e
  have ho := S.own
  split at e
  · rename_i y xs hy
    rw [hy] at ho
    obtain ⟨a, items, e1, e2, e3, e4, e5, e6⟩ := ho
    rw [List.lookup_cons] at e
    cases hxy : x == y with
    | true =>
      rw [hxy] at e
      have := beq_iff_eq.mp hxy; subst this
      cases e
      refine ⟨_, slot_name F S.ic e2, .list e6 (fun m => ?_) e3 (e4.mono (fun a m => .inl (List.mem_append_right _ m)) fun _ _ _ e _ => e)⟩
      obtain ⟨o, eo⟩ := F.hW a m
      rw [e5] at eo; cases eo
    | false =>
      rw [hxy] at e
      obtain ⟨val, a, b⟩ := S.vars x v e
      exact ⟨val, slot_name F S.ic a, sub b⟩
  · obtain ⟨val, a, b⟩ := S.vars x v e
    exact ⟨val, slot_name F S.ic a, sub b⟩

theorem SAt.keeps (S : SAt s₀ W Wf env m cm σ s) {h' : Heap} {tk : Nat} (k : KeepsH s.heap h') : SAt s₀ W Wf env m cm σ { s with heap := h', toks := tk } := by
  refine ⟨S.ic.kept k, fun x v e => let ⟨val, a, b⟩ := S.vars x v e; ⟨val, a, b.keeps k⟩, ?_⟩
  have ho := S.own
  split
  · rename_i e; rw [e] at ho; exact ho
  · rename_i y xs e
    rw [e] at ho
    obtain ⟨a, items, e1, e2, ⟨n, e3⟩, e4, e5, e6⟩ := ho
    exact ⟨a, items, e1, e2, ⟨n, k _ _ e3⟩, e4.keeps k, e5, e6⟩

/-- one object that is no sequence is changed -/
theorem SAt.poked (S : SAt s₀ W Wf env m cm σ s) {c : Addr} {h' : Heap} {tk : Nat} {m' cm' : Str → Option Value} (hc : ∀ o, s.heap.get? c = some o → ¬ isSeqObj o) (hs : Heap.SameBut c s.heap h') (ic : InCallC s₀ env.locals m' env.cells cm' { s with heap := h', toks := tk })
    {x : Str} {v : V} {val : Value} (hx : slotV env m' cm' x = some val) (hsl : ∀ y, y ≠ x → slotV env m' cm' y = slotV env m cm y) (r : VRep (Wf ++ W) s.heap v val) :
    ∃ Wf', (∀ a ∈ Wf', a ∈ Wf) ∧ SAt s₀ W Wf' env m' cm' (σ.set x v) { s with heap := h', toks := tk } := by
  have move : ∀ {Z Z' : List Addr} {v : V} {val : Value}, (∀ a ∈ Z', a ∈ Z) → VRep Z s.heap v val → VRep Z' h' v val := fun hZ r => r.mono (fun _ m => .inl (hZ _ m)) fun b o _ e hq => hs.extBut b o (fun q => by subst q; exact hc o e hq) e
  have moves : ∀ {Z Z' : List Addr} {v : List V} {val : List Value}, (∀ a ∈ Z', a ∈ Z) → VReps Z s.heap v val → VReps Z' h' v val := fun hZ r => r.mono (fun _ m => .inl (hZ _ m)) fun b o _ e hq => hs.extBut b o (fun q => by subst q; exact hc o e hq) e
  have ho := S.own
  have mk : ∀ Wf', (∀ a ∈ Wf' ++ W, a ∈ Wf ++ W) → (match (σ.set x v).own with
      | none => Wf' = []
      | some (x, xs) => ∃ a items, Wf' = [a] ∧ slotV env m' cm' x = some (.ref a) ∧ h'.PlainList a items ∧ VReps (Wf' ++ W) h' xs items.toList ∧ s₀.heap.get? a = none ∧ xs.length ≤ 2 ^ 20) →
      SAt s₀ W Wf' env m' cm' (σ.set x v) { s with heap := h', toks := tk } := fun Wf' hZ ow => by
    refine ⟨ic, fun y u e => ?_, ow⟩
    unfold St.set at e
    rw [setV_lookup] at e
    split at e
    · rename_i hyx
      have := beq_iff_eq.mp hyx; subst this
      cases e
      exact ⟨val, hx, move hZ r⟩
    · rename_i hyx
      obtain ⟨val', a, b⟩ := S.vars y u e
      exact ⟨val', (hsl y (fun q => hyx (beq_iff_eq.mpr q))).trans a, move hZ b⟩
  cases hσ : σ.own with
  | none =>
    rw [hσ] at ho
    refine ⟨Wf, fun _ m => m, mk Wf (fun _ m => m) ?_⟩
    unfold St.set; rw [hσ]; exact ho
  | some q =>
    obtain ⟨y, xs⟩ := q
    rw [hσ] at ho
    obtain ⟨a, items, e1, e2, ⟨n, e3⟩, e4, e5, e6⟩ := ho
    cases hyx : y == x with
    | true =>
      refine ⟨[], fun _ m => (by cases m), mk [] (fun a m => List.mem_append_right _ m) ?_⟩
      unfold St.set; rw [hσ]; simp only [hyx, if_true]
    | false =>
      refine ⟨Wf, fun _ m => m, mk Wf (fun _ m => m) ?_⟩
      unfold St.set; rw [hσ]; simp only [hyx, Bool.false_eq_true, if_false]
      exact ⟨a, items, e1, (hsl y (fun q => by subst q; simp at hyx)).trans e2, ⟨n, hs.extBut _ _ (fun q => by subst q; exact hc _ e3 ⟨_, _, rfl⟩) e3⟩, moves (fun _ m => m) e4, e5, e6⟩
end
end Mine
namespace Mine

noncomputable def scalarV : V → Bool
  | .list _ => false
  | .tup _ => false
  | _ => true
theorem VRep.scalar {W W' : List Addr} {h h' : Heap} {v : V} {x : Value} (hs : scalarV v = true) (r : VRep W h v x) : VRep W' h' v x := by
  cases v with
  | list => simp [scalarV] at hs
  | tup => simp [scalarV] at hs
  | none => simpa only [VRep] using r
  | bool => simpa only [VRep] using r
  | int => simpa only [VRep] using r
  | str => simpa only [VRep] using r
theorem VReps.scalar {W W' : List Addr} {h h' : Heap} : ∀ {vs : List V} {xs : List Value}, vs.all scalarV = true → VReps W h vs xs → VReps W' h' vs xs
  | [], _, _, r => by have := r.unnil; subst this; exact .nil
  | v :: vs, _, hs, r => by
    simp only [List.all_cons, Bool.and_eq_true] at hs
    obtain ⟨x, l, rfl, a, b⟩ := r.uncons
    exact .cons (a.scalar hs.1) (b.scalar hs.2)

section
variable {C : Cfg} {prog : Program} {w : World} {K : Frag} {p : Program} {loose : List Str} {mg mb : Str → Option Value} {lvl : Nat}
variable {A : Around} {s₀ s : Shared} {W Wf : List Addr} {env : Env} {kd : Kd} {m cm : Str → Option Value} {σ : St} {M : Model}

theorem slot_local {m cm : Str → Option Value} {x : Str} {val : Value} (hl : env.kindOf x = some .local) : slotV env (fun y => if y = x then some val else m y) cm x = some val ∧ ∀ y, y ≠ x → slotV env (fun y => if y = x then some val else m y) cm y = slotV env m cm y := by
  refine ⟨by unfold slotV; rw [if_pos hl]; simp, fun y hy => ?_⟩
  unfold slotV
  simp [hy]
theorem slot_cell {m cm : Str → Option Value} {x : Str} {val : Value} (hl : env.kindOf x = some .cell) : slotV env m (fun y => if y = x then some val else cm y) x = some val ∧ ∀ y, y ≠ x → slotV env m (fun y => if y = x then some val else cm y) y = slotV env m cm y := by
  refine ⟨by unfold slotV; rw [if_neg (by rw [hl]; decide), if_pos hl]; simp, fun y hy => ?_⟩
  unfold slotV
  simp [hy]

/-- a store into a name: what stands after -/
theorem store_at {E : Value → Shared → Prop} (F : FrOk K p loose mg mb s₀ W env kd) (ic : InCallC s₀ env.locals m env.cells cm s) {x : Str} {val : Value} (hk : kd.lookup x = some .local ∨ kd.lookup x = some .cell) {Q : Unit → Shared → Prop}
    (h : ∀ (c : Addr) (h' : Heap) (tk : Nat) (m' cm' : Str → Option Value), (c = env.locals ∨ ∃ n, env.cells.lookup n = some c) → (∀ o, s.heap.get? c = some o → ¬ isSeqObj o) → Heap.SameBut c s.heap h' → InCallC s₀ env.locals m' env.cells cm' { s with heap := h', toks := tk } →
      slotV env m' cm' x = some val → (∀ y, y ≠ x → slotV env m' cm' y = slotV env m cm y) → Q () { s with heap := h', toks := tk }) : wpAny M A (storeName env x val) Q E s := by
  have kind : ∀ k, kd.lookup x = some k → env.kindOf x = some k := fun k hk => by unfold Env.kindOf; rw [F.kdE]; exact hk
  obtain ⟨h₁, tk₁, hsame⟩ := ic.toInCall.same
  rcases hk with hk | hk
  · have hl := kind _ hk
    obtain ⟨hx1, hx2⟩ := slot_local (env := env) (m := m) (cm := cm) (val := val) hl
    refine wpAny_storeName_local hl ic.toInCall.ns (fun h' hn' hs' => h env.locals h' _ _ cm (.inl rfl) (fun o e hq => ?_) hs' ⟨⟨⟨h', s.toks + 1, by rw [hsame]⟩, hn', fun b o e => ?_, ic.toInCall.fresh⟩, fun k c hc => ?_, ic.apart, ic.above⟩ hx1 hx2) (by rw [F.fn]; rfl)
    · obtain ⟨o', es, ep, e1, e2, _⟩ := ic.toInCall.ns
      obtain ⟨its, n, hq⟩ := hq
      have : o = o' := Option.some.inj (e.symm.trans e1)
      subst this
      rw [e2] at hq; cases hq
    · exact hs'.extBut b o (Nat.ne_of_lt (Nat.lt_of_lt_of_le (Heap.lt_size e) ic.toInCall.fresh)) (ic.toInCall.keep b o e)
    · exact (ic.cell k c hc).sameBut hs' (Nat.ne_of_gt (ic.above k c (mem_of_lookup hc)))
  · have hl := kind _ hk
    obtain ⟨hx1, hx2⟩ := slot_cell (env := env) (m := m) (cm := cm) (val := val) hl
    obtain ⟨c, hc⟩ := Option.isSome_iff_exists.mp (F.cells x hk)
    have hLc := ic.above x c (mem_of_lookup hc)
    refine wpAny_storeName_cell F.fn hl hc (ic.cell x c hc) fun h' hc' hs' => h c h' s.toks m _ (.inr ⟨x, hc⟩) (fun o e hq => ?_) hs' ⟨⟨⟨h', s.toks, by rw [hsame]⟩, ic.toInCall.ns.sameBut hs' (Nat.ne_of_lt hLc), fun b o e => ?_, ic.toInCall.fresh⟩, fun k c' hk' => ?_, ic.apart, ic.above⟩ hx1 hx2
    · obtain ⟨o', e1, e2⟩ := ic.cell x c hc
      obtain ⟨its, n, hq⟩ := hq
      have : o = o' := Option.some.inj (e.symm.trans e1)
      subst this
      rw [e2] at hq; cases hq
    · exact hs'.extBut b o (Nat.ne_of_lt (Nat.lt_trans (Nat.lt_of_lt_of_le (Heap.lt_size e) ic.toInCall.fresh) hLc)) (ic.toInCall.keep b o e)
    · by_cases hkn : k = x
      · subst hkn
        rw [hc] at hk'; cases hk'
        simpa using hc'
      · rw [if_neg hkn]
        exact (ic.cell k c' hk').sameBut hs' fun e => hkn (name_of_addr ic.apart (mem_of_lookup hk') (e ▸ mem_of_lookup hc))

theorem PkOk.poke {Pk : List (Addr × Obj)} {Wf Wf' : List Addr} {h h' : Heap} {c : Addr} (hc : c = env.locals ∨ ∃ n, env.cells.lookup n = some c) (hs : Heap.SameBut c h h') (hw : ∀ q ∈ Pk, h.get? q.1 = some q.2 → q.1 ∉ Wf → q.1 ∉ Wf') (P : PkOk Pk env Wf h) : PkOk Pk env Wf' h' := fun q hq => by
  obtain ⟨a, b, d, e⟩ := P q hq
  refine ⟨hs.extBut _ _ ?_ a, b, d, hw q hq a e⟩
  rcases hc with rfl | ⟨n, hn⟩
  · exact b
  · exact d n c hn
theorem store_sound {E : Value → Shared → Prop} {Pk : List (Addr × Obj)} (F : FrOk K p loose mg mb s₀ W env kd) (S : SAt s₀ W Wf env m cm σ s) (P : PkOk Pk env Wf s.heap) {x : Str} {v : V} {val : Value} (hk : kd.lookup x = some .local ∨ kd.lookup x = some .cell) (r : VRep (Wf ++ W) s.heap v val) {Q : Unit → Shared → Prop}
    (h : ∀ s', (∃ h' tk, s' = { s with heap := h', toks := tk } ∧ ∃ c, (c = env.locals ∨ ∃ n, env.cells.lookup n = some c) ∧ (∀ o, s.heap.get? c = some o → ¬ isSeqObj o) ∧ Heap.SameBut c s.heap h') → SRep s₀ W Pk env (σ.set x v) s' → Q () s') : wpAny M A (storeName env x val) Q E s :=
  store_at F S.ic hk fun c h' tk m' cm' hcc hc hs ic hx hsl => let ⟨Wf', hw, S'⟩ := S.poked hc hs ic hx hsl r; h _ ⟨h', tk, rfl, c, hcc, hc, hs⟩ ⟨Wf', m', cm', S', P.poke hcc hs fun q _ _ hn m => hn (hw _ m)⟩

/-- an object that is nobody's is changed -/
theorem SRep.other {Pk : List (Addr × Obj)} {CC : Addr} {h6 : Heap} {tk : Nat} (R : SRep s₀ W Pk env σ s) (hs : Heap.SameBut CC s.heap h6) (hC : ∀ o, s.heap.get? CC = some o → ¬ isSeqObj o) (hCL : CC ≠ env.locals) (hCc : ∀ n c, env.cells.lookup n = some c → CC ≠ c)
    (hC0 : s₀.heap.get? CC = none) (hP : ∀ q ∈ Pk, q.1 ≠ CC) : SRep s₀ W Pk env σ { s with heap := h6, toks := tk } := by
  obtain ⟨Wf, m, cm, S, P⟩ := R
  have move : ∀ {v : V} {val : Value}, VRep (Wf ++ W) s.heap v val → VRep (Wf ++ W) h6 v val := fun r => r.mono (fun _ m => .inl m) fun b o _ e hq => hs.extBut b o (fun q => by subst q; exact hC o e hq) e
  have moves : ∀ {v : List V} {val : List Value}, VReps (Wf ++ W) s.heap v val → VReps (Wf ++ W) h6 v val := fun r => r.mono (fun _ m => .inl m) fun b o _ e hq => hs.extBut b o (fun q => by subst q; exact hC o e hq) e
  obtain ⟨h₁, tk₁, hsame⟩ := S.ic.toInCall.same
  refine ⟨Wf, m, cm, ⟨⟨⟨⟨h6, tk, by rw [hsame]⟩, S.ic.toInCall.ns.sameBut hs (Ne.symm hCL), fun b o e => hs.extBut b o (fun q => by subst q; rw [hC0] at e; cases e) (S.ic.toInCall.keep b o e), S.ic.toInCall.fresh⟩,
    fun n c hc => (S.ic.cell n c hc).sameBut hs (Ne.symm (hCc n c hc)), S.ic.apart, S.ic.above⟩, fun x v e => let ⟨val, a, b⟩ := S.vars x v e; ⟨val, a, move b⟩, ?_⟩, fun q hq => let ⟨a, b⟩ := P q hq; ⟨hs.extBut _ _ (hP q hq) a, b⟩⟩
  have ho := S.own
  split
  · rename_i e; rw [e] at ho; exact ho
  · rename_i y xs e
    rw [e] at ho
    obtain ⟨a, items, e1, e2, ⟨n, e3⟩, e4, e5, e6⟩ := ho
    exact ⟨a, items, e1, e2, ⟨n, hs.extBut _ _ (fun q => by subst q; exact hC _ e3 ⟨_, _, rfl⟩) e3⟩, moves e4, e5, e6⟩

theorem lookup_filter_ne (x y : Str) (hne : y ≠ x) (l : Vars) : (l.filter fun q => !(q.1 == x)).lookup y = l.lookup y := by
  have := lookup_filter_key (fun z => !(z == x)) y l
  rw [this]
  have : (y == x) = false := by simpa using hne
  simp [this]

/-- a fresh list under a name, held there alone -/
theorem store_own {E : Value → Shared → Prop} {Pk : List (Addr × Obj)} (F : FrOk K p loose mg mb s₀ W env kd) (S : SAt s₀ W Wf env m cm σ s) (P : PkOk Pk env Wf s.heap) {x : Str} {xs : List V} {a : Addr} {items : Array Value} {h1 : Heap} {tk1 : Nat} (k1 : KeepsH s.heap h1) (hk : kd.lookup x = some .local ∨ kd.lookup x = some .cell)
    (hf : s.heap.get? a = none) (hp : h1.PlainList a items) (r : VReps (Wf ++ W) h1 xs items.toList) (hsc : xs.all scalarV = true) (hle : xs.length ≤ 2 ^ 20) {Q : Unit → Shared → Prop}
    (h : ∀ s', (∃ h' tk, s' = { s with heap := h', toks := tk } ∧ ∃ c, (c = env.locals ∨ ∃ n, env.cells.lookup n = some c) ∧ (∀ o, h1.get? c = some o → ¬ isSeqObj o) ∧ Heap.SameBut c h1 h') → SRep s₀ W Pk env (σ.setOwn x xs) s' → Q () s') : wpAny M A (storeName env x (.ref a)) Q E { s with heap := h1, toks := tk1 } := by
  have S1 : InCallC s₀ env.locals m env.cells cm { s with heap := h1, toks := tk1 } := S.ic.kept k1
  refine store_at F S1 hk fun c h' tk m' cm' hcc hc hs ic hx hsl => h _ ⟨h', tk, rfl, c, hcc, hc, hs⟩ ⟨[a], m', cm', ⟨ic, fun y v e => ?_, ?_⟩, (P.keeps k1).poke hcc hs fun q hq _ _ m => by rw [List.mem_singleton] at m; subst m; have := (P q hq).1; rw [hf] at this; cases this⟩
  · have hne : y ≠ x := by
      rintro rfl
      have := lookup_filter_key (fun z => !(z == y)) y σ.vars
      unfold St.setOwn at e
      dsimp only at e
      rw [this] at e
      simp at e
    unfold St.setOwn at e
    dsimp only at e
    rw [lookup_filter_ne x y hne] at e
    obtain ⟨val, e1, e2⟩ := S.vars y v e
    refine ⟨val, (hsl y hne).trans e1, e2.mono (fun b hb => ?_) fun b o _ eb hq => hs.extBut b o (fun q => by subst q; exact hc o (k1 _ _ eb) hq) (k1 b o eb)⟩
    rcases List.mem_append.mp hb with hb | hb
    · rw [List.mem_singleton.mp hb]; exact .inr hf
    · exact .inl (List.mem_append_right _ hb)
  · show ∃ a' items', [a] = [a'] ∧ _
    obtain ⟨n, e⟩ := hp
    refine ⟨a, items, rfl, hx, ⟨n, hs.extBut _ _ (fun q => by subst q; exact hc _ e ⟨_, _, rfl⟩) e⟩, r.scalar hsc, ?_, hle⟩
    cases e0 : s₀.heap.get? a with
    | none => rfl
    | some o => rw [S.ic.toInCall.keep _ _ e0] at hf; cases hf
end
end Mine
namespace Mine

structure Sys where
  C : Cfg
  prog : Program
  w : World
  K : Frag
  p : Program
  loose : List Str
  mg : Str → Option Value
  mb : Str → Option Value
  lvl : Nat
noncomputable def Sys.Ok (Y : Sys) : Prop := CfgOk Y.C Y.prog Y.w Y.K Y.p Y.loose Y.mg Y.mb Y.lvl
noncomputable abbrev Sys.M (Y : Sys) : Model := model Y.prog Y.w
noncomputable abbrev Sys.Fr (Y : Sys) (s₀ : Shared) (W : List Addr) (env : Env) (kd : Kd) : Prop := FrOk Y.K Y.p Y.loose Y.mg Y.mb s₀ W env kd

inductive Flw where
  | next
  | brk
  | ret (v : V)

noncomputable def FRes (s₀ : Shared) (W : List Addr) (Pk : List (Addr × Obj)) (env : Env) (f : Flw) (σ' : St) (fl : Flow) (s' : Shared) : Prop := match f with
  | .next => fl = .next ∧ SRep s₀ W Pk env σ' s'
  | .brk => fl = .brk ∧ SRep s₀ W Pk env σ' s'
  | .ret v => ∃ val h' tk', fl = .ret val ∧ s' = { s₀ with heap := h', toks := tk' } ∧ KeepsH s₀.heap h' ∧ VRep W h' v val

/-- what a block of statements does, from σ to σ' -/
noncomputable def Run (Y : Sys) (kd : Kd) (stmts : List Stmt) (σ : St) (f : Flw) (σ' : St) : Prop :=
  ∀ A s₀ s W Pk env, Room Y.lvl A → Y.Fr s₀ W env kd → SRep s₀ W Pk env σ s → wpAny Y.M A (execs stmts env) (FRes s₀ W Pk env f σ') (fun _ _ => False) s

noncomputable def nameOk (kd : Kd) (x : Str) : Bool := kd.lookup x == some .local || kd.lookup x == some .cell
theorem nameOk_or {kd : Kd} {x : Str} (h : nameOk kd x = true) : kd.lookup x = some .local ∨ kd.lookup x = some .cell := by
  unfold nameOk at h
  simpa using h

/-- the value of an expression in a state -/
noncomputable def EvTo (Y : Sys) (n : Nat) (kd : Kd) (σ : St) (e : Expr) (v : V) : Prop := ev Y.C n false kd σ.vars e = some v ∨ (scalarV v = true ∧ ev Y.C n false kd σ.view e = some v)
noncomputable def TsTo (Y : Sys) (n : Nat) (kd : Kd) (σ : St) (e : Expr) (b : Bool) : Prop := ev Y.C n true kd σ.view e = some (.bool b)

section
variable {Y : Sys} {n : Nat} {kd : Kd} {σ σ₁ σ₂ : St} {f : Flw} {rest body : List Stmt} {A : Around} {s₀ s : Shared} {W Wf : List Addr} {Pk : List (Addr × Obj)} {env : Env} {m cm : Str → Option Value}

theorem SAt.ev (ok : Y.Ok) (hr : Room Y.lvl A) (F : Y.Fr s₀ W env kd) (S : SAt s₀ W Wf env m cm σ s) {e : Expr} {v : V} (h : EvTo Y n kd σ e v) : Gv Y.prog Y.w A (Wf ++ W) s (eval e env) v := by
  rcases h with h | ⟨hs, h⟩
  · exact ((ev_sound ok n) kd σ.vars e v).1 h A s _ env hr (S.cx F)
  · have g := ((ev_sound ok n) kd σ.view e v).1 h A s _ env hr (S.cxv F)
    exact wpAny_mono g (fun x s' ⟨h', tk', a, b, r⟩ => ⟨h', tk', a, b, r.scalar hs⟩) fun _ _ f => f
theorem SAt.ts (ok : Y.Ok) (hr : Room Y.lvl A) (F : Y.Fr s₀ W env kd) (S : SAt s₀ W Wf env m cm σ s) {e : Expr} {b : Bool} (h : TsTo Y n kd σ e b) : GvB Y.prog Y.w A s (isTrue e env (eval e env)) b := by
  obtain ⟨b', hb, g⟩ := ((ev_sound ok n) kd σ.view e (.bool b)).2 h
  cases hb
  exact g A s _ env hr (S.cxv F)

theorem Run.cons {st : Stmt} (h : ∀ A s₀ s W Pk env, Room Y.lvl A → Y.Fr s₀ W env kd → SRep s₀ W Pk env σ s → wpAny Y.M A (exec st env) (FRes s₀ W Pk env .next σ₁) (fun _ _ => False) s)
    (hr : Run Y kd rest σ₁ f σ₂) : Run Y kd (st :: rest) σ f σ₂ := fun A s₀ s W Pk env ro F R =>
  wpAny_execs_cons (wpAny_mono (h A s₀ s W Pk env ro F R) (fun fl s' q => by
    obtain ⟨rfl, R'⟩ := q
    exact hr A s₀ s' W Pk env ro F R') fun _ _ e => e)
theorem Run.stop {st : Stmt} (h : ∀ A s₀ s W Pk env, Room Y.lvl A → Y.Fr s₀ W env kd → SRep s₀ W Pk env σ s → wpAny Y.M A (exec st env) (FRes s₀ W Pk env f σ₂) (fun _ _ => False) s)
    (hf : f ≠ .next) : Run Y kd (st :: rest) σ f σ₂ := fun A s₀ s W Pk env ro F R =>
  wpAny_execs_cons (wpAny_mono (h A s₀ s W Pk env ro F R) (fun fl s' q => by
    cases f with
    | next => exact absurd rfl hf
    | brk => obtain ⟨rfl, R'⟩ := q; exact ⟨rfl, R'⟩
    | ret v => obtain ⟨val, h', tk', rfl, a, b, c⟩ := q; exact ⟨val, h', tk', rfl, a, b, c⟩) fun _ _ e => e)
theorem Run.nil : Run Y kd [] σ .next σ := fun _ _ _ _ _ _ _ _ R => wpAny_execs_nil ⟨rfl, R⟩

theorem swaps_case (e : Expr) (x : Str) (p : Pos) (l : Nat) : swapsWith e (some (.Name x p)) l env = pure false ∨ (∃ elt gens sc q, e = .ListComp elt gens sc q ∧ swapsWith e (some (.Name x p)) l env = pure true) ∨ (∃ a b c d, e = .SetComp a b c d) ∨ ∃ a b c d f, e = .DictComp a b c d f := by
  cases e with
  | ListComp elt gens sc q =>
    have : ∃ b, swapsWith (.ListComp elt gens sc q) (some (.Name x p)) l env = pure b := ⟨_, rfl⟩
    obtain ⟨b, hb⟩ := this
    cases b with
    | false => exact .inl hb
    | true => exact .inr (.inl ⟨_, _, _, _, rfl, hb⟩)
  | SetComp a b c d => exact .inr (.inr (.inl ⟨_, _, _, _, rfl⟩))
  | DictComp a b c d f => exact .inr (.inr (.inr ⟨_, _, _, _, _, rfl⟩))
  | _ => exact .inl rfl

theorem ev_setcomp {C : Cfg} {vars : Vars} {a b c d v} (h : ev C n false kd vars (.SetComp a b c d) = some v) : False := by
  cases n with
  | zero => cases h
  | succ n => cases h
theorem ev_dictcomp {C : Cfg} {vars : Vars} {a b c d f v} (h : ev C n false kd vars (.DictComp a b c d f) = some v) : False := by
  cases n with
  | zero => cases h
  | succ n => cases h
noncomputable def notTup : Expr → Bool
  | .Tuple .. => false
  | _ => true
noncomputable def pairG : List Comprehension → Bool
  | [] => true
  | g :: _ => notTup g.target
noncomputable def notPair : Expr → Bool
  | .ListComp _ gs _ _ => pairG gs
  | _ => true
theorem ev_listcomp {C : Cfg} {vars : Vars} {elt gens sc q v} (hnp : notPair (.ListComp elt gens sc q) = true) (h : ev C n false kd vars (.ListComp elt gens sc q) = some v) :
    ∃ n' x px iter ifs, n = n' + 1 ∧ gens = [⟨.Name x px, iter, ifs, 0⟩] ∧ evComp (Mine.ev C n') kd vars elt x iter ifs sc = some v := by
  cases n with
  | zero => cases h
  | succ n =>
    change evStep C (Mine.ev C n) kd vars (.ListComp elt gens sc q) = some v at h
    unfold evStep at h
    dsimp only at h
    split at h <;> try cases h
    split at h <;> try cases h
    rename_i hk
    cases beq_iff_eq.mp hk
    unfold evLC at h
    split at h
    · rename_i hx
      obtain ⟨xp, rfl⟩ := nameE?_some hx
      exact ⟨n, _, _, _, _, rfl, rfl, h⟩
    · split at h <;> try cases h
      rw [Option.bind_eq_some_iff] at h
      obtain ⟨y, hy, h⟩ := h
      rw [Option.bind_eq_some_iff] at h
      obtain ⟨ab, hab, h⟩ := h
      rw [Option.bind_eq_some_iff] at hab
      obtain ⟨es, ht, hab⟩ := hab
      obtain ⟨_, _, rfl⟩ := tupE?_some ht
      cases hnp

/-- x = e -/
theorem assign_exec (ok : Y.Ok) {x : Str} {xp q : Pos} {e : Expr} {v : V} (he : EvTo Y n kd σ e v) (hx : nameOk kd x = true) (hnp : notPair e = true) :
    ∀ A s₀ s W Pk env, Room Y.lvl A → Y.Fr s₀ W env kd → SRep s₀ W Pk env σ s → wpAny Y.M A (exec (.Assign [.Name x xp] e q) env) (FRes s₀ W Pk env .next (σ.set x v)) (fun _ _ => False) s := by
  intro A s₀ s W Pk env hr F ⟨Wf, m, cm, S, P⟩
  have hk := nameOk_or hx
  rcases swaps_case (env := env) e x xp q.line with hs | ⟨elt, gens, sc, q', rfl, hs⟩ | ⟨a, b, c, d, rfl⟩ | ⟨a, b, c, d, f, rfl⟩
  · refine wpAny_Assign_Name ((S.ev ok hr F he).bindQ fun val h1 tk1 k1 r1 => ?_) hs
    exact store_sound F (S.keeps k1) (P.keeps k1) hk r1 fun s' _ R => ⟨rfl, R⟩
  · rcases he with he | ⟨hsc, he⟩
    · obtain ⟨n', y, py, iter, ifs, rfl, rfl, hc⟩ := ev_listcomp hnp he
      obtain ⟨ys, rfl, g⟩ := evComp_core (px := py) (pos := q') ok (ev_sound ok n') hr hc (S.cx F)
      rw [exec_Assign_Name_used _ _ _ _ hs]
      refine wpAny_bind (wpAny_standAt (wpAny_bind ?_))
      show wpAny _ A (do let _ ← comprehension (.ListComp elt [⟨.Name y py, iter, ifs, 0⟩] sc q') sc env _ (newList []) false (eval iter env) (some (assign (.Name x xp) env))) _ _ s
      refine wpAny_bind (wpAny_mono (g (use := some (assign (.Name x xp) env)) (Q := fun _ s' => SRep s₀ W Pk env (σ.set x (.list ys)) s') (E := fun _ _ => False) fun CC D h4 tk4 m₀ k4 hn hC hD r => ?_) (fun _ s' R => wpAny_pure (wpAny_pure ⟨rfl, R⟩)) fun _ _ f => f)
      show wpAny _ A (assign (.Name x xp) env (.ref D)) _ _ _
      have S4 := S.keeps (tk := tk4) k4
      have exL : ∀ c, (c = env.locals ∨ ∃ n, env.cells.lookup n = some c) → ∃ o, s.heap.get? c = some o := fun c hc => by
        rcases hc with rfl | ⟨n, hn⟩
        · obtain ⟨o, _, _, e, _⟩ := S.ic.toInCall.ns; exact ⟨o, e⟩
        · obtain ⟨o, e, _⟩ := S.ic.cell n c hn; exact ⟨o, e⟩
      have neC : ∀ c, (∃ o, s.heap.get? c = some o) → CC ≠ c := fun c ⟨o, e⟩ q => by subst q; rw [hC] at e; cases e
      refine wpAny_assign_Name (store_sound F S4 (P.keeps k4) hk r fun s' ⟨h5, tk5, hs5, c, hcc, hc5, sb⟩ R => ?_)
      subst hs5
      have hcC : CC ≠ c := neC c (exL c hcc)
      have hn5 : h5.Ns CC m₀ := hn.sameBut sb hcC
      refine ⟨m₀, hn5, fun h6 hs6 => R.other hs6 (fun o e hq => ?_) (neC _ (exL _ (.inl rfl))) (fun n c hc => neC c (exL c (.inr ⟨n, hc⟩))) ?_ fun q hq => Ne.symm (neC _ ⟨_, (P q hq).1⟩)⟩
      · obtain ⟨o', es, ep, e1, e2, _⟩ := hn5
        obtain ⟨its, k, hq⟩ := hq
        have : o = o' := Option.some.inj (e.symm.trans e1)
        subst this
        rw [e2] at hq; cases hq
      · cases e0 : s₀.heap.get? CC with
        | none => rfl
        | some o => rw [S.ic.toInCall.keep _ _ e0] at hC; cases hC
    · obtain ⟨n', y, py, iter, ifs, rfl, rfl, hc⟩ := ev_listcomp hnp he
      unfold evComp at hc
      split at hc
      · rw [Option.bind_eq_some_iff] at hc
        obtain ⟨xs, _, hc⟩ := hc
        split at hc
        · rw [Option.map_eq_some_iff] at hc
          obtain ⟨ys, _, rfl⟩ := hc
          simp [scalarV] at hsc
        · cases hc
      · cases hc
  · exact (he.elim ev_setcomp fun he => ev_setcomp he.2).elim
  · exact (he.elim ev_dictcomp fun he => ev_dictcomp he.2).elim
end
end Mine
namespace Mine

/-- what one statement does -/
noncomputable def Ex (Y : Sys) (kd : Kd) (st : Stmt) (σ : St) (f : Flw) (σ' : St) : Prop :=
  ∀ A s₀ s W Pk env, Room Y.lvl A → Y.Fr s₀ W env kd → SRep s₀ W Pk env σ s → wpAny Y.M A (exec st env) (FRes s₀ W Pk env f σ') (fun _ _ => False) s

inductive WhileTo (Y : Sys) (kd : Kd) (c : Expr) (body : List Stmt) : Nat → St → Flw → St → Prop where
  | done {n : Nat} {σ : St} : TsTo Y n kd σ c false → WhileTo Y kd c body 0 σ .next σ
  | turn {n : Nat} {k : Nat} {σ σ₁ : St} {f : Flw} {σ₂ : St} : TsTo Y n kd σ c true → Run Y kd body σ .next σ₁ → WhileTo Y kd c body k σ₁ f σ₂ → WhileTo Y kd c body (k + 1) σ f σ₂
  | brk {n : Nat} {σ σ₁ : St} : TsTo Y n kd σ c true → Run Y kd body σ .brk σ₁ → WhileTo Y kd c body 0 σ .next σ₁
  | ret {n : Nat} {σ : St} {v : V} {σ₁ : St} : TsTo Y n kd σ c true → Run Y kd body σ (.ret v) σ₁ → WhileTo Y kd c body 0 σ (.ret v) σ₁

inductive ForTo (Y : Sys) (kd : Kd) (x : Str) (body : List Stmt) : List V → St → Flw → St → Prop where
  | done {σ : St} : ForTo Y kd x body [] σ .next σ
  | turn {v : V} {vs : List V} {σ σ₁ : St} {f : Flw} {σ₂ : St} : Run Y kd body (σ.set x v) .next σ₁ → ForTo Y kd x body vs σ₁ f σ₂ → ForTo Y kd x body (v :: vs) σ f σ₂
  | brk {v : V} {vs : List V} {σ σ₁ : St} : Run Y kd body (σ.set x v) .brk σ₁ → ForTo Y kd x body (v :: vs) σ .next σ₁
  | ret {v : V} {vs : List V} {σ : St} {u : V} {σ₁ : St} : Run Y kd body (σ.set x v) (.ret u) σ₁ → ForTo Y kd x body (v :: vs) σ (.ret u) σ₁


section
variable {Y : Sys} {n : Nat} {kd : Kd} {σ σ₁ σ₂ : St} {f : Flw} {rest body orelse : List Stmt} {A : Around} {s₀ s : Shared} {W Wf : List Addr} {Pk : List (Addr × Obj)} {env : Env} {m cm : Str → Option Value} {st : Stmt} {q : Pos}

theorem Run.step (h : Ex Y kd st σ .next σ₁) (hr : Run Y kd rest σ₁ f σ₂) : Run Y kd (st :: rest) σ f σ₂ := Run.cons h hr
theorem Run.last (h : Ex Y kd st σ f σ₂) (hf : f ≠ .next) : Run Y kd (st :: rest) σ f σ₂ := Run.stop h hf

theorem Ex.assign (ok : Y.Ok) {x : Str} {xp : Pos} {e : Expr} {v : V} (he : EvTo Y n kd σ e v) (hx : nameOk kd x = true) (hnp : notPair e = true) : Ex Y kd (.Assign [.Name x xp] e q) σ .next (σ.set x v) := assign_exec ok he hx hnp

theorem Ex.ret (ok : Y.Ok) {e : Expr} {v : V} (he : ev Y.C n false kd σ.view e = some v) : Ex Y kd (.Return (some e) q) σ (.ret v) σ := by
  intro A s₀ s W Pk env hr F ⟨Wf, m, cm, S, P⟩
  have g := ((ev_sound ok n) kd σ.view e v).1 he A s _ env hr (S.cxv F)
  refine wpAny_Return_some (g.bindQ fun val h1 tk1 k1 r1 => ?_)
  obtain ⟨h₁, tk₁, hsame⟩ := S.ic.toInCall.same
  exact ⟨val, h1, tk1, rfl, by rw [hsame], fun b o e => k1 b o (S.ic.toInCall.keep b o e), r1⟩

theorem Ex.brk : Ex Y kd (.Break q) σ .brk σ := fun _ _ _ _ _ _ _ _ R => wpAny_Break ⟨rfl, R⟩

theorem Ex.ite (ok : Y.Ok) {c : Expr} {b : Bool} (hc : TsTo Y n kd σ c b) (h : Run Y kd (if b = true then body else orelse) σ f σ₂) : Ex Y kd (.If c body orelse q) σ f σ₂ := by
  intro A s₀ s W Pk env hr F ⟨Wf, m, cm, S, P⟩
  refine wpAny_If ((S.ts ok hr F hc).bindQ fun h1 tk1 k1 => ?_)
  have := h A s₀ { s with heap := h1, toks := tk1 } W Pk env hr F ⟨Wf, m, cm, S.keeps k1, P.keeps k1⟩
  cases b
  · simpa using this
  · simpa using this

theorem Ex.while (ok : Y.Ok) {c : Expr} {k : Nat} (h : WhileTo Y kd c body k σ f σ₂) : Ex Y kd (.While c body [] q) σ f σ₂ := by
  intro A s₀ s W Pk env hr F R
  refine wpAny_While (codeAny_whileLoop (fun k s => ∃ σ, WhileTo Y kd c body k σ f σ₂ ∧ SRep s₀ W Pk env σ s) (fun k s ⟨σ, h, R⟩ => ?_) k ⟨σ, h, R⟩)
  obtain ⟨Wf, m, cm, S, P⟩ := R
  have go : ∀ {n : Nat} {b : Bool}, TsTo Y n kd σ c b → ∀ {Q : Bool → Shared → Prop} {E : Value → Shared → Prop}, (∀ s', SRep s₀ W Pk env σ s' → Q b s') → wpAny Y.M A (isTrue c env (eval c env)) Q E s := fun hc Q E hQ =>
    (S.ts ok hr F hc).bindQ fun h1 tk1 k1 => hQ _ ⟨Wf, m, cm, S.keeps k1, P.keeps k1⟩
  cases h with
  | done hc =>
    refine go hc fun s' R' => ?_
    simp only [Bool.false_eq_true, if_false]
    exact wpAny_execs_nil ⟨rfl, R'⟩
  | turn hc hb hw =>
    refine go hc fun s' R' => ?_
    simp only [if_true]
    refine wpAny_mono (hb A s₀ s' W Pk env hr F R') (fun fl s3 q => ?_) fun _ _ e => e.elim
    obtain ⟨rfl, R3⟩ := q
    exact ⟨_, Nat.lt_succ_self _, _, hw, R3⟩
  | brk hc hb =>
    refine go hc fun s' R' => ?_
    simp only [if_true]
    refine wpAny_mono (hb A s₀ s' W Pk env hr F R') (fun fl s3 q => ?_) fun _ _ e => e.elim
    obtain ⟨rfl, R3⟩ := q
    exact ⟨rfl, R3⟩
  | ret hc hb =>
    refine go hc fun s' R' => ?_
    simp only [if_true]
    refine wpAny_mono (hb A s₀ s' W Pk env hr F R') (fun fl s3 q => ?_) fun _ _ e => e.elim
    obtain ⟨val, h', tk', rfl, q⟩ := q
    exact ⟨val, h', tk', rfl, q⟩

theorem SAt.off {I : Addr} {h4 : Heap} {tk : Nat} (S : SAt s₀ W Wf env m cm σ s) (hI : ∀ o, s.heap.get? I = some o → ¬ isSeqObj o) (hIL : I ≠ env.locals) (hIc : ∀ n c, env.cells.lookup n = some c → I ≠ c)
    (hI0 : s₀.heap.get? I = none) (hk : ∀ b o, b ≠ I → s.heap.get? b = some o → h4.get? b = some o) : SAt s₀ W Wf env m cm σ { s with heap := h4, toks := tk } := by
  have move : ∀ {v : V} {val : Value}, VRep (Wf ++ W) s.heap v val → VRep (Wf ++ W) h4 v val := fun r => r.mono (fun _ m => .inl m) fun b o _ e hq => hk b o (fun q => by subst q; exact hI o e hq) e
  have moves : ∀ {v : List V} {val : List Value}, VReps (Wf ++ W) s.heap v val → VReps (Wf ++ W) h4 v val := fun r => r.mono (fun _ m => .inl m) fun b o _ e hq => hk b o (fun q => by subst q; exact hI o e hq) e
  obtain ⟨h₁, tk₁, hsame⟩ := S.ic.toInCall.same
  refine ⟨⟨⟨⟨h4, tk, by rw [hsame]⟩, S.ic.toInCall.ns.at' fun o e => hk _ o (Ne.symm hIL) e, fun b o e => hk b o (fun q => by subst q; rw [hI0] at e; cases e) (S.ic.toInCall.keep b o e), S.ic.toInCall.fresh⟩,
    fun n c hc => let ⟨o, e1, e2⟩ := S.ic.cell n c hc; ⟨o, hk _ _ (Ne.symm (hIc n c hc)) e1, e2⟩, S.ic.apart, S.ic.above⟩, fun x v e => let ⟨val, a, b⟩ := S.vars x v e; ⟨val, a, move b⟩, ?_⟩
  have ho := S.own
  split
  · rename_i e; rw [e] at ho; exact ho
  · rename_i y xs e
    rw [e] at ho
    obtain ⟨a, items, e1, e2, ⟨n, e3⟩, e4, e5, e6⟩ := ho
    exact ⟨a, items, e1, e2, ⟨n, hk _ _ (fun q => by subst q; exact hI _ e3 ⟨_, _, rfl⟩) e3⟩, moves e4, e5, e6⟩

theorem SAt.seqOff (S : SAt s₀ W Wf env m cm σ s) {b : Addr} {o : Obj} (e : s.heap.get? b = some o) (hq : isSeqObj o) : b ≠ env.locals ∧ ∀ n c, env.cells.lookup n = some c → b ≠ c := by
  obtain ⟨its, n, hq⟩ := hq
  constructor
  · rintro rfl
    obtain ⟨o', es, ep, e1, e2, _⟩ := S.ic.toInCall.ns
    have : o = o' := Option.some.inj (e.symm.trans e1)
    subst this
    rw [e2] at hq; cases hq
  · rintro n c hc rfl
    obtain ⟨o', e1, e2⟩ := S.ic.cell n b hc
    have : o = o' := Option.some.inj (e.symm.trans e1)
    subst this
    rw [e2] at hq; cases hq

noncomputable def objsAt (fp : List Addr) (h : Heap) : List (Addr × Obj) := fp.filterMap fun b => (h.get? b).map fun o => (b, o)
theorem objsAt_mem {fp : List Addr} {h : Heap} {q : Addr × Obj} (hq : q ∈ objsAt fp h) : q.1 ∈ fp ∧ h.get? q.1 = some q.2 := by
  unfold objsAt at hq
  rw [List.mem_filterMap] at hq
  obtain ⟨b, hb, e⟩ := hq
  rw [Option.map_eq_some_iff] at e
  obtain ⟨o, e, rfl⟩ := e
  exact ⟨hb, e⟩
theorem objsAt_of {fp : List Addr} {h : Heap} {b : Addr} {o : Obj} (hb : b ∈ fp) (e : h.get? b = some o) : (b, o) ∈ objsAt fp h := by
  unfold objsAt
  rw [List.mem_filterMap]
  exact ⟨b, hb, by rw [e]; rfl⟩

noncomputable def ForI (Y : Sys) (kd : Kd) (x : Str) (body : List Stmt) (xs : List V) (s₀ : Shared) (W : List Addr) (env : Env) (PP : List (Addr × Obj)) (fp : List Addr) (St : Nat → Heap → Prop) (f : Flw) (σ₂ : Mine.St) (k : Nat) (s' : Shared) : Prop :=
  ∃ i σi Wf m cm, k = xs.length - i ∧ i ≤ xs.length ∧ ForTo Y kd x body (xs.drop i) σi f σ₂ ∧ SAt s₀ W Wf env m cm σi s' ∧ PkOk PP env Wf s'.heap ∧ St i s'.heap ∧
    ∀ b ∈ fp, b ≠ env.locals ∧ (∀ n c, env.cells.lookup n = some c → b ≠ c) ∧ b ∉ Wf ∧ ∃ o, s'.heap.get? b = some o

theorem for_loop {x : Str} {px : Pos} {xs : List V} {I : Addr} {fp : List Addr} {P : Nat → Value → Prop} {St : Nat → Heap → Prop} {LL : List (Addr × Obj)} (hr : Room Y.lvl A) (F : Y.Fr s₀ W env kd) (hx : kd.lookup x = some .local ∨ kd.lookup x = some .cell)
    (Wk : Walks Y.prog Y.w A I fp [I] xs.length P St) (hI0 : s₀.heap.get? I = none) (hIst : ∀ i h, St i h → ∃ o, h.get? I = some o ∧ ¬ isSeqObj o) (hIP : ∀ q ∈ LL ++ Pk, q.1 ≠ I)
    (hLL : ∀ q ∈ LL, isSeqObj q.2 ∧ q.1 ∉ W) (hP : ∀ (i : Nat) v, P i v → ∀ x, xs[i]? = some x → ∀ h' W', OkL W' h' LL → VRep W' h' x v) {k : Nat}
    (h : ForI Y kd x body xs s₀ W env (LL ++ Pk) fp St f σ₂ k s) :
    codeAny Y.M A (.forLoop (.Name x px) (.ref I) body [] env) (fun r s' => match r with | .ok fl => FRes s₀ W Pk env f σ₂ fl s' | .error e => cameBackBy Y.M A env (fun _ _ => False) e s') s := by
  have hIfp : I ∈ fp := Wk.sub I (List.mem_singleton.mpr rfl)
  refine codeAny_forLoop (ForI Y kd x body xs s₀ W env (LL ++ Pk) fp St f σ₂) (fun k s' h => ?_) k h
  obtain ⟨i, σi, Wf, m, cm, rfl, hi, hf, S, P1, st, hfp⟩ := h
  obtain ⟨oI, eI, nI⟩ := hIst i _ st
  have nI' : ∀ o, s'.heap.get? I = some o → ¬ isSeqObj o := fun o e => by rw [eI] at e; cases e; exact nI
  obtain ⟨hIL, hIc, hIW, _⟩ := hfp I hIfp
  by_cases hlt : i < xs.length
  · refine Wk.item i s' _ _ hlt st fun v h4 tk4 hPv st4 hk4 => ?_
    have hk4' : ∀ b o, b ≠ I → s'.heap.get? b = some o → h4.get? b = some o := fun b o hb e => hk4 b o (by rw [List.mem_singleton]; exact hb) e
    have S4 : SAt s₀ W Wf env m cm σi { s' with heap := h4, toks := tk4 } := S.off nI' hIL hIc hI0 hk4'
    have exi : xs[i]? = some xs[i] := List.getElem?_eq_getElem hlt
    have rv : VRep (Wf ++ W) h4 xs[i] v := hP i v hPv _ exi _ _ fun q hq => by
      obtain ⟨a1, _, _, a4⟩ := P1 q (List.mem_append_left _ hq)
      obtain ⟨b1, b2⟩ := hLL q hq
      refine ⟨hk4' _ _ (hIP q (List.mem_append_left _ hq)) a1, b1, fun m => ?_⟩
      exact (List.mem_append.mp m).elim a4 b2
    have P4 : PkOk (objsAt fp h4 ++ (LL ++ Pk)) env Wf h4 := fun q hq => by
      rcases List.mem_append.mp hq with hq | hq
      · obtain ⟨a1, a2⟩ := objsAt_mem hq
        obtain ⟨b1, b2, b3, _⟩ := hfp _ a1
        exact ⟨a2, b1, b2, b3⟩
      · obtain ⟨a1, a2⟩ := P1 q hq
        exact ⟨hk4' _ _ (hIP q hq) a1, a2⟩
    refine wpAny_assign_Name (store_sound F S4 P4 hx rv fun s5 _ R5 => ?_)
    have hd : xs.drop i = xs[i] :: xs.drop (i + 1) := List.drop_eq_getElem_cons hlt
    rw [hd] at hf
    have back : ∀ {s6 : Shared} {σ₆ : Mine.St}, SRep s₀ W (objsAt fp h4 ++ (LL ++ Pk)) env σ₆ s6 → SRep s₀ W Pk env σ₆ s6 := fun R => by
      obtain ⟨W6, m6, cm6, S6, P6⟩ := R
      exact ⟨W6, m6, cm6, S6, fun q hq => P6 q (List.mem_append_right _ (List.mem_append_right _ hq))⟩
    cases hf with
    | turn hb hw =>
      refine wpAny_mono (hb A s₀ s5 W _ env hr F R5) (fun fl s6 q => ?_) fun _ _ e => e.elim
      obtain ⟨rfl, W6, m6, cm6, S6, P6⟩ := q
      refine ⟨xs.length - (i + 1), by (first | lia | omega), i + 1, _, W6, m6, cm6, rfl, hlt, hw, S6, fun q hq => P6 q (List.mem_append_right _ hq), Wk.frame _ _ _ st4 fun b hb o e => (P6 (b, o) (List.mem_append_left _ (objsAt_of hb e))).1, fun b hb => ?_⟩
      have : ∃ o4, h4.get? b = some o4 := by
        by_cases hbI : b = I
        · subst hbI
          obtain ⟨o4, e4, _⟩ := hIst _ _ st4
          exact ⟨o4, e4⟩
        · obtain ⟨_, _, _, o, eo⟩ := hfp b hb
          exact ⟨o, hk4' _ _ hbI eo⟩
      obtain ⟨o4, e4⟩ := this
      obtain ⟨d1, d2, d3, d4⟩ := P6 (b, o4) (List.mem_append_left _ (objsAt_of hb e4))
      exact ⟨d2, d3, d4, o4, d1⟩
    | brk hb =>
      refine wpAny_mono (hb A s₀ s5 W _ env hr F R5) (fun fl s6 q => ?_) fun _ _ e => e.elim
      obtain ⟨rfl, R6⟩ := q
      exact ⟨rfl, back R6⟩
    | ret hb =>
      refine wpAny_mono (hb A s₀ s5 W _ env hr F R5) (fun fl s6 q => ?_) fun _ _ e => e.elim
      obtain ⟨val, h', tk', rfl, q⟩ := q
      exact ⟨val, h', tk', rfl, q⟩
  · have hin : i = xs.length := Nat.le_antisymm hi (Nat.not_lt.mp hlt)
    subst hin
    rw [List.drop_length] at hf
    cases hf
    refine Wk.done s' _ _ st fun h4 tk4 hk4 => ?_
    have hk4' : ∀ b o, b ≠ I → s'.heap.get? b = some o → h4.get? b = some o := fun b o hb e => hk4 b o (by rw [List.mem_singleton]; exact hb) e
    exact wpAny_execs_nil ⟨rfl, Wf, m, cm, S.off nI' hIL hIc hI0 hk4', fun q hq => let ⟨a1, a2⟩ := P1 q (List.mem_append_right _ hq); ⟨hk4' _ _ (hIP q (List.mem_append_right _ hq)) a1, a2⟩⟩

theorem Ex.for (ok : Y.Ok) {x : Str} {px : Pos} {iter : Expr} {xs : List V} (he : evIter (Mine.ev Y.C n) kd σ.vars iter = some xs) (hset : notSet iter = true) (hx : nameOk kd x = true) (h : ForTo Y kd x body xs σ f σ₂) :
    Ex Y kd (.For (.Name x px) iter body [] q) σ f σ₂ := by
  intro A s₀ s W Pk env hr F ⟨Wf, m, cm, S, P0⟩
  have src := evIter_sound ok (ev_sound ok n) hr he (S.cx F)
  refine wpAny_For (wpAny_mono src (fun xv s₁ h₁ => wpAny_mono h₁ (fun it s₂ h₂ => ?_) fun _ _ e => e.elim) fun _ _ e => e.elim) (set_not hset)
  obtain ⟨I, fp, P, St, rfl, ⟨h₂, tk₂, rfl⟩, k₂, hIn, Wk, st0, hfp, hfps, hIst, LL, hLL, hPL⟩ := h₂
  dsimp only at k₂ st0 hfps hLL
  have S2 : SAt s₀ W Wf env m cm σ { s with heap := h₂, toks := tk₂ } := S.keeps k₂
  have hne : ∀ b, (∃ o, s.heap.get? b = some o) → b ≠ I := fun b ⟨o, e⟩ q => by subst q; rw [hIn] at e; cases e
  have hI0 : s₀.heap.get? I = none := by
    cases e0 : s₀.heap.get? I with
    | none => rfl
    | some o => exact absurd rfl (hne I ⟨o, S.ic.toInCall.keep _ _ e0⟩)
  refine for_loop (LL := LL) (k := xs.length - 0) hr F (nameOk_or hx) Wk hI0 hIst (fun q hq => ?_) (fun q hq => ?_) hPL ⟨0, σ, Wf, m, cm, rfl, Nat.zero_le _, h, S2, fun q hq => ?_, st0, fun b hb => ?_⟩
  · rcases List.mem_append.mp hq with hq | hq
    · exact fun e => (hLL q hq).2.2 (e ▸ List.mem_cons_self)
    · exact hne _ ⟨_, (P0 q hq).1⟩
  · exact ⟨(hLL q hq).2.1, fun m => (hLL q hq).2.2 (List.mem_cons_of_mem _ (List.mem_append_right _ m))⟩
  · rcases List.mem_append.mp hq with hq | hq
    · obtain ⟨a1, a2, a3⟩ := hLL q hq
      obtain ⟨c1, c2⟩ := S2.seqOff a1 a2
      exact ⟨a1, c1, c2, fun m => a3 (List.mem_cons_of_mem _ (List.mem_append_left _ m))⟩
    · exact (P0.keeps k₂) q hq
  · by_cases hbI : b = I
    · subst hbI
      obtain ⟨oI, eI, _⟩ := hIst _ _ st0
      refine ⟨fun e => ?_, fun n c hc e => ?_, fun m => ?_, oI, eI⟩
      · obtain ⟨o, es, ep, e1, _⟩ := S.ic.toInCall.ns
        exact hne _ ⟨o, e1⟩ e.symm
      · obtain ⟨o, e1, _⟩ := S.ic.cell n c hc
        exact hne _ ⟨o, e1⟩ e.symm
      · exact hne b (S.Wex F b (List.mem_append_left _ m)) rfl
    · obtain ⟨o, eo, hq, hw⟩ := hfps b hb hbI
      obtain ⟨c1, c2⟩ := S2.seqOff eo hq
      exact ⟨c1, c2, fun m => hw (List.mem_append_left _ m), o, eo⟩
end
end Mine
namespace Mine

section
variable {prog : Program} {w : World} {A : Around} {E : Value → Shared → Prop} {s : Shared} {M : Model} {env : Env}

theorem draw_walk {I : Addr} {fp wr : List Addr} {n : Nat} {P : Nat → Value → Prop} {St : Nat → Heap → Prop} (Wk : Walks prog w A I fp wr n P St) : ∀ (k i : Nat) (s : Shared) (Q : List Value → Shared → Prop), St i s.heap → i + k ≤ n →
    (∀ (vals : List Value) h' tk, vals.length = k → (∀ (j : Nat) v, vals[j]? = some v → P (i + j) v) → St (i + k) h' → (∀ b o, b ∉ wr → s.heap.get? b = some o → h'.get? b = some o) → Q vals { s with heap := h', toks := tk }) → wpAny (model prog w) A (draw (.ref I) k) Q E s
  | 0, i, s, Q, st, _, hQ => by
    show wpAny _ _ (pure []) Q E s
    exact wpAny_pure (hQ [] s.heap s.toks rfl (by simp) st fun _ _ _ e => e)
  | k + 1, i, s, Q, st, hle, hQ => by
    show wpAny _ _ (pyNext (.ref I) >>= _) Q E s
    refine wpAny_bind (Wk.item i s _ _ (by (first | lia | omega)) st fun v h1 tk1 hp st1 k1 => ?_)
    refine wpAny_bind (wpAny_holding (draw_walk Wk k (i + 1) _ _ st1 (by (first | lia | omega)) fun vals h2 tk2 hl hP st2 k2 => wpAny_pure ?_))
    refine hQ (v :: vals) h2 tk2 (by simp [hl]) (fun j u hj => ?_) (by rw [show i + (k + 1) = i + 1 + k by (first | lia | omega)]; exact st2) fun b o hb e => k2 b o hb (k1 b o hb e)
    cases j with
    | zero => cases hj; exact hp
    | succ j => rw [show i + (j + 1) = i + 1 + j by (first | lia | omega)]; exact hP j u (by simpa using hj)

theorem unpack_list {a : Addr} {items : Array Value} {Q : List Value → Shared → Prop} (hh : A.handled = none) (hp : s.heap.PlainList a items)
    (hQ : ∀ h' tk, KeepsH s.heap h' → Q items.toList { s with heap := h', toks := tk }) : wpAny (model prog w) A (unpackItems (.ref a) items.size none) Q E s := by
  have hl := PlainList.isList hp
  have hlt : a ≠ s.heap.objs.size := by obtain ⟨n, e⟩ := hp; exact Nat.ne_of_lt (Heap.lt_size e)
  have Wk := Walks.list (prog := prog) (w := w) (A := A) hh s.heap.objs.size a hlt items
  have nI : ∀ b o, s.heap.get? b = some o → b ∉ [s.heap.objs.size] := fun b o e => by rw [List.mem_singleton]; exact Nat.ne_of_lt (Heap.lt_size e)
  unfold unpackItems
  refine wpAny_bind ?_
  unfold notIterableAtAll
  refine wpAny_bind (wpAny_specialOf hl.typeIs F.slot_list_iter.lookup ?_)
  refine wpAny_pure ?_
  simp only [Bool.false_eq_true, if_false]
  refine wpAny_bind (wpAny_holding (wpAny_pyIter_list hl ?_))
  refine wpAny_bind (wpAny_holding (draw_walk Wk items.size 0 _ _ ⟨⟨_, Heap.get?_push_size _ rfl, rfl, rfl⟩, hl.push _⟩ (by (first | lia | omega)) fun vals h1 tk1 hlen hP st1 k1 => ?_))
  have hv : vals = items.toList := by
    apply List.ext_getElem?
    intro j
    by_cases hj : j < vals.length
    · have := hP j vals[j] (List.getElem?_eq_getElem hj)
      rw [List.getElem?_eq_getElem hj, Array.getElem?_toList]
      rw [Nat.zero_add] at this
      exact this.symm
    · rw [List.getElem?_eq_none (by (first | lia | omega)), List.getElem?_eq_none (by simp; (first | lia | omega))]
  subst hv
  rw [if_neg (by simp)]
  rw [Nat.zero_add] at st1
  refine wpAny_bind (wpAny_holding (Wk.done { s with heap := h1, toks := tk1 } _ _ st1 fun h2 tk2 k2 => ?_))
  simp only [Option.isSome_none, Bool.false_eq_true, if_false]
  exact wpAny_pure (hQ h2 tk2 fun b o e => k2 b o (nI b o e) (k1 b o (nI b o e) (Heap.get?_push_of_some _ e)))

theorem setItem_plain {l : Addr} {items : Array Value} {k : Int} {t : Tok} {v : Value} {Q : Unit → Shared → Prop} (hl : s.heap.PlainList l items)
    (h0 : 0 ≤ k) (hfit : k < 2 ^ 63) (hn : k < items.size)
    (hQ : ∀ h', h'.PlainList l (items.setIfInBounds k.toNat v) → Heap.SameBut l s.heap h' → Q () { s with heap := h' }) :
    wpAny (model prog w) A (setItem (.ref l) (.int k t) v) Q E s := by
  obtain ⟨n, ho⟩ := id hl
  have hT := (PlainList.isList hl).typeIs
  unfold setItem
  try with_reducible refine wpAny_holding ?_
  first | refine wpAny_bind (wpAny_pure ?_) | skip
  refine wpAny_bind (wpAny_sequenceKey hT (by decide) ?_)
  refine wpAny_bind (wpAny_callSpecial?_slot (name := Str.ofString "__setitem__") hT PySem.slot_list_setitem
    (wpAny_call_entry PySem.slot_list_setitem hT PySem.entry_list_setitem ?_ (PySem.args_list_setitem _ _ _)))
  show wpAny _ _ (Builtin.List.listSubscript? (.int k t) >>= _) _ _ s
  refine wpAny_bind (wpAny_listSubscript_int (fitsIndex_of h0 hfit) ?_)
  clear hfit
  obtain ⟨j, rfl⟩ := Int.eq_ofNat_of_zero_le h0
  have hj : j < items.size := by (first | lia | omega)
  have hx' : items[j]? = some items[j] := Array.getElem?_eq_getElem hj
  show wpAny _ _ ((seqItemAt l j >>= fun r => pure (r.map (j, ·))) >>= _) _ _ s
  refine wpAny_bind (wpAny_bind (wpAny_seqItemAt ho rfl (wpAny_pure ?_)))
  rw [hx']
  show wpAny _ _ (setSeqItemAt l j v >>= _) _ _ s
  have hfin : (s.heap.update l (Obj.mapSeq (·.setIfInBounds j v))).PlainList l (items.setIfInBounds j v) := by
    obtain ⟨n', hd'⟩ := Obj.data_mapSeq (o := { cls := .type "list", data := .seq items n }) rfl (·.setIfInBounds j v)
    refine ⟨n', ?_⟩
    rw [Heap.get?_update_self _ ho (Obj.isFreed_of_seq hd')]
    unfold Obj.mapSeq at hd' ⊢
    simp only at hd' ⊢
    injection hd' with h1 h2
    rw [h2]
  refine wpAny_bind (wpAny_setSeqItemAt ho rfl ?_)
  first
    | exact wpAny_bind (wpAny_pure (wpAny_pure ⟨.none, rfl, wpAny_pure (hQ _ hfin (Heap.SameBut.update ..))⟩))
    | exact wpAny_pure ⟨.none, rfl, wpAny_pure (hQ _ hfin (Heap.SameBut.update ..))⟩

theorem iadd_lists {a b : Addr} {items items2 : Array Value} {Q : Value → Shared → Prop} (ha : s.heap.PlainList a items) (hb : s.heap.PlainList b items2) (hle : items.size + items2.size ≤ 2 ^ 21)
    (hQ : ∀ h', h'.PlainList a (items ++ items2) → Heap.SameBut a s.heap h' → Q (.ref a) { s with heap := h' }) : wpAny (model prog w) A (inplaceOp .Add (.ref a) (.ref b)) Q E s := by
  obtain ⟨n, ea⟩ := ha
  obtain ⟨n2, eb⟩ := hb
  have hTa : s.TypeIs (.ref a) "list" := ⟨_, ea, rfl⟩
  have hTb : s.TypeIs (.ref b) "list" := ⟨_, eb, rfl⟩
  have hno : typeLookup (.type "list") (dunderI "add") = pure (some (.builtin "list.__iadd__")) := F.slot_list_iadd.lookup
  have hseq : isSeqSlot (some (.builtin "list.__iadd__")) = true := by decide +kernel
  have hfi : fillsInplaceSlot (.type "list") "add" (Operator.Add == .Add) = pure false := by
    unfold fillsInplaceSlot
    show (typeLookup (.type "list") (dunderI "add") >>= fun fi => pure (fi.isSome && !isSeqSlot fi)) = pure false
    rw [hno, pure_bind, hseq]; rfl
  have hsi : seqSlot? (.type "list") (dunderI "add") = pure (some (.builtin "list.__iadd__")) := PySem.seqSlot_of hno hseq
  have hfill : fillsNumberSlot (.type "list") "add" = pure false := PySem.fillsNumberSlot_seq F.slot_list_add.lookup (by decide +kernel) (r := none) (by rw [typeLookup_type, builtinLookup_eq_fast]; kernel_rfl) rfl
  unfold inplaceOp
  refine wpAny_holding ?_
  refine wpAny_bind (wpAny_typeOf hTa (wpAny_bind (wpAny_of_eq hfi ?_)))
  show wpAny _ A (if false = true then _ else _) Q E s
  rw [if_neg Bool.false_ne_true]
  refine wpAny_bind (wpAny_binaryOp1_none (nm := "add") hTa hTb hfill ?_)
  refine wpAny_bind (wpAny_of_eq hsi ?_)
  refine wpAny_bind (wpAny_rule ?_)
  have hfin : (s.heap.update a (Obj.mapSeq fun x => x ++ items2)).PlainList a (items ++ items2) := by
    obtain ⟨n', hd'⟩ := Obj.data_mapSeq (o := { cls := .type "list", data := .seq items n }) rfl (fun x => x ++ items2)
    refine ⟨n', ?_⟩
    rw [Heap.get?_update_self _ ea (Obj.isFreed_of_seq hd')]
    unfold Obj.mapSeq at hd' ⊢
    simp only at hd' ⊢
    injection hd' with h1 h2
    rw [h2]
  refine call_meets F.slot_list_iadd hTa F.entry_list_iadd (F.args_list_iadd_2 _ _) (PySem.AutoSeq1.list___iadd___list_list_0 a items n b items2 n2 ?_ (by rw [sizeLine_eq]; (first | lia | omega)) (by rw [sizeLine_eq]; (first | lia | omega))) ⟨ea, eb, ?_⟩
  · unfold Builtin.List.listTooLong
    simp
    intro _
    rw [sizeLine_eq]
    (first | lia | omega)
  · exact hQ _ hfin (Heap.SameBut.update ..)
end
end Mine
namespace Mine

section
variable {Y : Sys} {n : Nat} {kd : Kd} {σ σ₁ σ₂ : St} {f : Flw} {rest body orelse : List Stmt} {A : Around} {s₀ s : Shared} {W Wf : List Addr} {Pk : List (Addr × Obj)} {env : Env} {m cm : Str → Option Value} {st : Stmt} {q : Pos}

theorem slot_load {M : Model} {E : Value → Shared → Prop} (F : Y.Fr s₀ W env kd) (S : SAt s₀ W Wf env m cm σ s) {x : Str} {val : Value} (h : slotV env m cm x = some val) {Q : Value → Shared → Prop} (hQ : Q val s) : wpAny M A (loadName env x) Q E s := by
  rcases slot_name F S.ic h with ⟨hk, m', hn, hm⟩ | ⟨hk, cc, hcl, hcell⟩
  · exact wpAny_loadName_local F.fn hk hn hm hQ
  · exact wpAny_loadName_cell F.fn hk hcl hcell hQ
theorem slot_dbg (F : Y.Fr s₀ W env kd) {x : Str} {val : Value} (h : slotV env m cm x = some val) : (x == ("__debug__" : Str)) = false := by
  cases hx : x == ("__debug__" : Str) with
  | false => rfl
  | true =>
    have := beq_iff_eq.mp hx; subst this
    unfold slotV Env.kindOf at h
    rw [F.kdE, F.dbg] at h
    simp at h
theorem slot_eval {M : Model} {E : Value → Shared → Prop} (F : Y.Fr s₀ W env kd) (S : SAt s₀ W Wf env m cm σ s) {x : Str} {xp : Pos} {val : Value} (h : slotV env m cm x = some val) {Q : Value → Shared → Prop} (hQ : Q val s) : wpAny M A (eval (.Name x xp) env) Q E s :=
  wpAny_Name (slot_load F S h hQ) (slot_dbg F h)

/-- the own list is changed in place -/
theorem SAt.poke {x : Str} {xs xs' : List V} {a : Addr} {items' : Array Value} {h' : Heap} {tk : Nat} {W' : List Addr} (S : SAt s₀ W [a] env m cm σ s) (P : PkOk Pk env [a] s.heap) (ho : σ.own = some (x, xs)) (hs : Heap.SameBut a s.heap h') (hp : h'.PlainList a items')
    (r : VReps W' h' xs' items'.toList) (hsc : xs'.all scalarV = true) (hle : xs'.length ≤ 2 ^ 20) : SAt s₀ W [a] env m cm ⟨σ.vars, some (x, xs')⟩ { s with heap := h', toks := tk } ∧ PkOk Pk env [a] h' := by
  have how := S.own
  rw [ho] at how
  obtain ⟨a', items, e1, e2, ⟨k, e3⟩, e4, e5, e6⟩ := how
  cases e1
  obtain ⟨c1, c2⟩ := S.seqOff e3 ⟨_, _, rfl⟩
  obtain ⟨h₁, tk₁, hsame⟩ := S.ic.toInCall.same
  refine ⟨⟨⟨⟨⟨h', tk, by rw [hsame]⟩, S.ic.toInCall.ns.sameBut hs (Ne.symm c1), fun b o e => hs.extBut b o (fun q => by subst q; rw [e5] at e; cases e) (S.ic.toInCall.keep b o e), S.ic.toInCall.fresh⟩,
    fun n c hc => (S.ic.cell n c hc).sameBut hs (Ne.symm (c2 n c hc)), S.ic.apart, S.ic.above⟩, fun y v e => let ⟨val, a1, b1⟩ := S.vars y v e; ⟨val, a1, b1.mono (fun _ m => .inl m) fun b o hb e _ => hs.extBut b o (fun q => by subst q; simp at hb) e⟩, ?_⟩, fun q hq => ?_⟩
  · exact ⟨a, items', rfl, e2, hp, r.scalar hsc, e5, hle⟩
  · obtain ⟨a1, a2, a3, a4⟩ := P q hq
    exact ⟨hs.extBut _ _ (by simpa using a4) a1, a2, a3, a4⟩

theorem SAt.ownIs {x : Str} {xs : List V} (S : SAt s₀ W Wf env m cm σ s) (ho : σ.own = some (x, xs)) : ∃ a items, Wf = [a] ∧ slotV env m cm x = some (.ref a) ∧ s.heap.PlainList a items ∧ VReps (Wf ++ W) s.heap xs items.toList ∧ s₀.heap.get? a = none ∧ xs.length ≤ 2 ^ 20 := by
  have := S.own
  rw [ho] at this; exact this

noncomputable def augI : Operator → Int → Int → Option Int
  | .Add, a, b => some (a + b)
  | .Sub, a, b => some (a - b)
  | .BitAnd, a, b => some (Builtin.bitAnd a b)
  | .BitXor, a, b => some (Builtin.bitXor a b)
  | _, _, _ => none

theorem Ex.aug (ok : Y.Ok) {op : Operator} {x : Str} {xp : Pos} {e : Expr} {a b c : Int} (ha : σ.vars.lookup x = some (.int a)) (he : EvTo Y n kd σ e (.int b)) (hop : augI op a b = some c) (hx : nameOk kd x = true) :
    Ex Y kd (.AugAssign (.Name x xp) op e q) σ .next (σ.set x (.int c)) := by
  intro A s₀ s W Pk env hr F ⟨Wf, m, cm, S, P⟩
  obtain ⟨val, hs, rv⟩ := S.vars x _ ha
  obtain ⟨t, rfl⟩ := rv.toInt
  refine wpAny_AugAssign_Name (slot_load F S hs ((S.ev ok hr F he).bindQ fun val h1 tk1 k1 r1 => ?_))
  obtain ⟨u, rfl⟩ := r1.toInt
  have fin : ∀ tk2, wpAny Y.M A (storeName env x (.int c tk2)) (fun _ => FRes s₀ W Pk env .next (σ.set x (.int c)) .next) (fun _ _ => False) { s with heap := h1, toks := tk1 + 1 } := fun tk2 =>
    store_sound F (S.keeps k1) (P.keeps k1) (nameOk_or hx) .int fun s' _ R => ⟨rfl, R⟩
  unfold augI at hop
  split at hop <;> cases hop
  · exact wpAny_iadd_int (fin _)
  · exact PyProof.Rows.isub_int (fin _)
  · exact iand_int (fin _)
  · exact ixor_int (fin _)

/-- x = y = e -/
theorem Ex.two (ok : Y.Ok) {x y : Str} {xp yp : Pos} {e : Expr} {v : V} (he : EvTo Y n kd σ e v) (hsc : scalarV v = true) (hx : nameOk kd x = true) (hy : nameOk kd y = true) :
    Ex Y kd (.Assign [.Name x xp, .Name y yp] e q) σ .next ((σ.set x v).set y v) := by
  intro A s₀ s W Pk env hr F ⟨Wf, m, cm, S, P⟩
  refine wpAny_Assign_two ((S.ev ok hr F he).bindQ fun val h1 tk1 k1 r1 => ?_)
  refine wpAny_assign_Name (store_sound F (S.keeps k1) (P.keeps k1) (nameOk_or hx) r1 fun s' _ R => ?_)
  obtain ⟨Wf2, m2, cm2, S2, P2⟩ := R
  exact wpAny_assign_Name (store_sound F S2 P2 (nameOk_or hy) (r1.scalar hsc) fun s' _ R => ⟨rfl, R⟩)

noncomputable def St.sets (σ : St) : List (Str × V) → St
  | [] => σ
  | (x, v) :: r => St.sets (σ.set x v) r
theorem stores {Q : Unit → Shared → Prop} {E : Value → Shared → Prop} (F : Y.Fr s₀ W env kd) : ∀ (ps : List (Str × V × Value × (Value → Sem Unit))) (σ : St) (s : Shared), (∀ p ∈ ps, nameOk kd p.1 = true ∧ scalarV p.2.1 = true ∧ VRep [] s.heap p.2.1 p.2.2.1 ∧
      ∀ v (Q : Unit → Shared → Prop) (E : Value → Shared → Prop) s, wpAny Y.M A (storeName env p.1 v) Q E s → wpAny Y.M A (p.2.2.2 v) Q E s) → SRep s₀ W Pk env σ s → (∀ s', SRep s₀ W Pk env (σ.sets (ps.map fun p => (p.1, p.2.1))) s' → Q () s') →
    wpAny Y.M A (assignInOrder (ps.map fun p => p.2.2.2) (ps.map fun p => p.2.2.1)) Q E s
  | [], σ, s, _, R, hQ => wpAny_pure (hQ s R)
  | (x, v, val, t) :: r, σ, s, hp, R, hQ => by
    obtain ⟨h1, h2, h3, h4⟩ := hp _ List.mem_cons_self
    obtain ⟨Wf, m, cm, S, P⟩ := R
    refine assignInOrder_cons (h4 _ _ _ _ (store_sound F S P (nameOk_or h1) (h3.scalar h2) fun s' _ R' => ?_))
    exact stores F r _ s' (fun p hp' => let ⟨a, b, c, d⟩ := hp p (List.mem_cons_of_mem _ hp'); ⟨a, b, c.scalar b, d⟩) R' hQ

/-- a, b = (b, a) -/
theorem Ex.swap (ok : Y.Ok) {a b : Str} {ap bp ap' bp' tp tp' : Pos} {k k' : Nat} {va vb : V} (ea : σ.vars.lookup a = some va) (eb : σ.vars.lookup b = some vb) (sa : scalarV va = true) (sb : scalarV vb = true) (ha : nameOk kd a = true) (hb : nameOk kd b = true)
    (hw : ∀ env, env.scope.kind = .function → env.scope.names = kd → swappedStores [.Tuple [.Name a ap, .Name b bp] k tp] (.Tuple [.Name b bp', .Name a ap'] k' tp') env = pure (some [a, b])) :
    Ex Y kd (.Assign [.Tuple [.Name a ap, .Name b bp] k tp] (.Tuple [.Name b bp', .Name a ap'] k' tp') q) σ .next ((σ.set b va).set a vb) := by
  intro A s₀ s W Pk env hr F ⟨Wf, m, cm, S, P⟩
  have hev : ev Y.C 2 false kd σ.vars (.Tuple [.Name b bp', .Name a ap'] k' tp') = some (.tup [vb, va]) := by
    have h1 : ev Y.C 1 false kd σ.vars (.Name b bp') = some vb := by
      show (match σ.vars.lookup b with | some v => some v | none => if kd.lookup b == some NameKind.globalImplicit then (Y.C.gconst b).map V.int else none) = _
      rw [eb]
    have h2 : ev Y.C 1 false kd σ.vars (.Name a ap') = some va := by
      show (match σ.vars.lookup a with | some v => some v | none => if kd.lookup a == some NameKind.globalImplicit then (Y.C.gconst a).map V.int else none) = _
      rw [ea]
    show (if [Expr.Name b bp', Expr.Name a ap'].length ≤ 2 ^ 20 then (evArgs (ev Y.C 1) kd σ.vars [.Name b bp', .Name a ap']).map V.tup else none) = _
    rw [if_pos (show [Expr.Name b bp', Expr.Name a ap'].length ≤ 2 ^ 20 from Nat.le_of_ble_eq_true rfl)]
    simp only [evArgs, notStar, if_true, h1, h2, Option.bind_some, Option.map_some]
  refine Assign_Tuple_swapped ((S.ev ok hr F (.inl hev)).bindQ fun val h1 tk1 k1 r1 => ?_) rfl (hw env F.fn F.kdE)
  obtain ⟨t, items, rfl, ht, pt, rt⟩ := r1.toTup
  obtain ⟨xb, l, e1, rb, rl⟩ := rt.uncons
  obtain ⟨xa, l, rfl, ra, rl⟩ := rl.uncons
  have := rl.unnil; subst this
  have hsz : items.size = 2 := by rw [← Array.length_toList, e1]; rfl
  show wpAny Y.M A (unpackItems (.ref t) 2 none) _ _ _
  rw [← hsz]
  refine wpAny_unpackItems_tuple hr.hh pt fun h2 he2 => ?_
  rw [e1]
  have k2 : KeepsH s.heap h2 := fun b o e => he2 b o (Nat.ne_of_lt (Heap.lt_size (k1 b o e))) (k1 b o e)
  refine stores F [(b, va, xa, bindName env b), (a, vb, xb, bindName env a)] σ { s with heap := h2, toks := tk1 } (fun p hp => ?_) ⟨Wf, m, cm, S.keeps k2, P.keeps k2⟩ fun s' R => ⟨rfl, R⟩
  simp only [List.mem_cons, List.not_mem_nil, or_false] at hp
  rcases hp with rfl | rfl
  · exact ⟨hb, sa, ra.scalar sa, fun v Q E s h => wpAny_bindName h⟩
  · exact ⟨ha, sb, rb.scalar sb, fun v Q E s h => wpAny_bindName h⟩

/-- a, b, .. = e, e a list of ints or texts -/
theorem Ex.unpack (ok : Y.Ok) {ns : List (Str × Pos)} {k : Nat} {tp : Pos} {e : Expr} {vs : List V} (he : EvTo Y n kd σ e (.list vs)) (hl : ns.length = vs.length) (hsc : vs.all scalarV = true) (hn : ∀ p, p ∈ ns → nameOk kd p.1 = true)
    (hs : ∀ env, swapsWithSole [Expr.Tuple (ns.map fun p => Expr.Name p.1 p.2) k tp] e q.line env = pure false) (hw : ∀ env, swappedStores [Expr.Tuple (ns.map fun p => Expr.Name p.1 p.2) k tp] e env = pure none) :
    Ex Y kd (.Assign [Expr.Tuple (ns.map fun p => Expr.Name p.1 p.2) k tp] e q) σ .next (σ.sets ((ns.map (·.1)).zip vs)) := by
  intro A s₀ s W Pk env hr F ⟨Wf, m, cm, S, P⟩
  refine Assign_Tuple ((S.ev ok hr F he).bindQ fun val h1 tk1 k1 r1 => ?_) (hs env) (hw env)
  obtain ⟨hz, a, items, rfl, ha, pa, ra⟩ := r1.toList
  clear hz
  have hlen := ra.length
  have hasg : assignEach (ns.map fun p => Expr.Name p.1 p.2) env = ns.map fun p => (false, PySem.assign (Expr.Name p.1 p.2) env) := by
    clear hs hw hl hn
    induction ns with
    | nil => rfl
    | cons p r ih => simp only [List.map_cons]; rw [← ih]; rfl
  rw [arm_assign_Tuple]
  refine wpAny_bind (wpAny_standAt ?_)
  unfold PySem.unpack
  rw [hasg]
  have h0 : (ns.map fun p => (false, PySem.assign (Expr.Name p.1 p.2) env)).findIdx? (·.1) = none := by
    clear hs hw hl hn hasg
    induction ns with
    | nil => rfl
    | cons p r ih => rw [List.map_cons, List.findIdx?_cons]; simp only [Bool.false_eq_true, if_false]; rw [ih]; rfl
  rw [h0]
  have hsz : (ns.map fun p => (false, PySem.assign (Expr.Name p.1 p.2) env)).length = items.size := by rw [List.length_map, hl, ← hlen, Array.length_toList]
  rw [hsz]
  refine wpAny_bind (wpAny_holding (unpack_list hr.hh pa fun h2 tk2 k2 => ?_))
  rw [List.map_map]
  have k3 : KeepsH s.heap h2 := fun b o e => k2 b o (k1 b o e)
  have R0 : SRep s₀ W Pk env σ { s with heap := h2, toks := tk2 } := ⟨Wf, m, cm, S.keeps k3, P.keeps k3⟩
  have rr : VReps [] h2 vs items.toList := ra.scalar hsc
  clear hs hw hasg h0 hsz S P ra pa k1 k2 k3 hlen he r1
  generalize items.toList = xs at rr
  generalize ({ s with heap := h2, toks := tk2 } : Shared) = s3 at R0
  induction ns generalizing vs xs σ s3 with
  | nil => exact wpAny_pure ⟨rfl, R0⟩
  | cons p r ih =>
    obtain ⟨x, xp⟩ := p
    cases vs with
    | nil => simp at hl
    | cons v vs =>
      obtain ⟨val, l, rfl, rv, rl⟩ := rr.uncons
      simp only [List.all_cons, Bool.and_eq_true] at hsc
      obtain ⟨Wf, m, cm, S, P⟩ := R0
      refine assignInOrder_cons (wpAny_assign_Name (store_sound F S P (nameOk_or (hn _ List.mem_cons_self)) (rv.scalar hsc.1) fun s' _ R' => ?_))
      exact ih (by simpa using hl) hsc.2 (fun p hp => hn p (List.mem_cons_of_mem _ hp)) _ rl _ R'
end
end Mine
namespace Mine

section
variable {Y : Sys} {n : Nat} {kd : Kd} {σ σ₁ σ₂ : St} {f : Flw} {rest body orelse : List Stmt} {A : Around} {s₀ s : Shared} {W Wf : List Addr} {Pk : List (Addr × Obj)} {env : Env} {m cm : Str → Option Value} {st : Stmt} {q : Pos}

/-- row[index] = e -/
theorem Ex.setItem (ok : Y.Ok) {x : Str} {xp tp : Pos} {ie e : Expr} {xs : List V} {k : Nat} {v : V} (ho : σ.own = some (x, xs)) (he : EvTo Y n kd σ e v) (hsc : scalarV v = true) (hi : EvTo Y n kd σ ie (.int k)) (hk : k < xs.length) (hxs : xs.all scalarV = true)
    (hs : ∀ env, swapsWith e (some (.Subscript (.Name x xp) ie tp)) q.line env = pure false) :
    Ex Y kd (.Assign [.Subscript (.Name x xp) ie tp] e q) σ .next ⟨σ.vars, some (x, xs.set k v)⟩ := by
  intro A s₀ s W Pk env hr F ⟨Wf, m, cm, S, P⟩
  obtain ⟨a, items, rfl, _, _, _, _, _⟩ := S.ownIs ho
  refine wpAny_Assign_Subscript ((S.ev ok hr F he).bindQ fun val h1 tk1 k1 r1 => ?_) (hs env)
  have S1 := S.keeps (tk := tk1) k1
  obtain ⟨a', items, e1, e2, e3, e4, e5, e6⟩ := S1.ownIs ho
  cases e1
  refine slot_eval F S1 e2 ?_
  refine ((S1.ev ok hr F hi).bindQ fun ival h2 tk2 k2 r2 => ?_)
  obtain ⟨t, rfl⟩ := r2.toInt
  have S2 := S1.keeps (tk := tk2) k2
  have hlen := e4.length
  rw [Array.length_toList] at hlen
  have hp2 : h2.PlainList a items := by obtain ⟨n, e⟩ := e3; exact ⟨n, k2 _ _ e⟩
  refine setItem_plain (s := { s with heap := h2, toks := tk2 }) hp2 (by (first | lia | omega)) (by have := e6; (first | lia | omega)) (by (first | lia | omega)) fun h3 hp3 hs3 => ?_
  have r3 : VReps [] h3 (xs.set k v) (items.setIfInBounds (k : Int).toNat val).toList := by
    rw [Array.toList_setIfInBounds, Int.toNat_natCast]
    exact VReps.set (r1.scalar hsc) k (e4.scalar hxs)
  have P2 : PkOk Pk env [a] h2 := (P.keeps k1).keeps k2
  obtain ⟨S3, P3⟩ := S2.poke (tk := tk2) P2 ho hs3 hp3 r3 (by
    rw [List.all_eq_true] at hxs ⊢
    intro y hy
    rcases List.mem_or_eq_of_mem_set hy with h | h
    · exact hxs y h
    · exact h ▸ hsc) (by rw [List.length_set]; exact e6)
  exact ⟨rfl, _, m, cm, S3, P3⟩

/-- row.append(e) -/
theorem Ex.append (ok : Y.Ok) {x : Str} {xp apos pos : Pos} {e : Expr} {xs : List V} {v : V} (ho : σ.own = some (x, xs)) (he : EvTo Y n kd σ e v) (hsc : scalarV v = true) (hxs : xs.all scalarV = true) (hst : notStar e = true) (hline : (apos.endLine == pos.line) = true) (hlen : xs.length < 2 ^ 20)
    (hs : ∀ env, swapsWith (.Call (.Attribute (.Name x xp) "append" apos) [e] [] pos) none q.line env = pure false) :
    Ex Y kd (.Expr (.Call (.Attribute (.Name x xp) "append" apos) [e] [] pos) q) σ .next ⟨σ.vars, some (x, xs ++ [v])⟩ := by
  intro A s₀ s W Pk env hr F ⟨Wf, m, cm, S, P⟩
  obtain ⟨a, items, rfl, e2, e3, e4, e5, e6⟩ := S.ownIs ho
  refine wpAny_Expr ?_ (by unfold interactive; rw [F.fn]; rfl) (hs env)
  have hns : ∀ e' ∈ [e], notStar e' = true := fun e' h => by rw [List.mem_singleton.mp h]; exact hst
  refine wpAny_Call_method_lateS rfl (by rw [noStars hns]; rfl) hline (slot_eval F S e2 ?_)
  have hT : s.TypeIs (.ref a) "list" := by obtain ⟨n, e⟩ := e3; exact ⟨_, e, rfl⟩
  refine ⟨"list", "list.append", PySem.F.plainAttrs_list, PySem.slot_list_append, rfl, hT, (fun b hb => by cases hb; obtain ⟨n, e⟩ := e3; exact ⟨_, e, rfl⟩), Calls.callWith_builtin (plain_args hns) (evalArgs_of (by simp) hns ?_)⟩
  rw [starEach_not hst]
  refine Calls.spliced_cons ((S.ev ok hr F he).bindQ fun val h1 tk1 k1 r1 => Calls.spliced_nil ?_)
  have S1 := S.keeps (tk := tk1) k1
  have hp1 : h1.PlainList a items := by obtain ⟨n, e⟩ := e3; exact ⟨n, k1 _ _ e⟩
  have hl := e4.length
  rw [Array.length_toList] at hl
  refine wpAny_list_append_plain (s := { s with heap := h1, toks := tk1 }) hp1 (fun h2 hp2 hs2 => ?_) (by rw [sizeLine_eq]; (first | lia | omega))
  obtain ⟨S2, P2⟩ := S1.poke (tk := tk1) (P.keeps k1) ho hs2 hp2 (xs' := xs ++ [v]) (W' := []) (by rw [Array.toList_push]; exact (e4.scalar hxs).append (.one (r1.scalar hsc))) (by rw [List.all_append, hxs]; simp [hsc]) (by rw [List.length_append]; show xs.length + 1 ≤ _; (first | lia | omega))
  exact ⟨rfl, _, m, cm, S2, P2⟩

/-- the slot of the own list is stored anew -/
theorem store_same {M : Model} {E : Value → Shared → Prop} (F : Y.Fr s₀ W env kd) (S : SAt s₀ W Wf env m cm σ s) (P : PkOk Pk env Wf s.heap) {x : Str} {val : Value} (hk : kd.lookup x = some .local ∨ kd.lookup x = some .cell) (hsl : slotV env m cm x = some val) {Q : Unit → Shared → Prop}
    (h : ∀ s', SRep s₀ W Pk env σ s' → Q () s') : wpAny M A (storeName env x val) Q E s := by
  refine store_at F S.ic hk fun c h' tk m' cm' hcc hc hs ic hx hsl' => h _ ⟨Wf, m', cm', ⟨ic, fun y v e => ?_, ?_⟩, P.poke hcc hs fun _ _ _ h => h⟩
  · obtain ⟨val', a, b⟩ := S.vars y v e
    have e' : slotV env m' cm' y = slotV env m cm y := by
      by_cases hy : y = x
      · subst hy; rw [hx, hsl]
      · exact hsl' y hy
    exact ⟨val', e'.trans a, b.mono (fun _ m => .inl m) fun b o _ e hq => hs.extBut b o (fun q => by subst q; exact hc o e hq) e⟩
  · have ho := S.own
    split
    · rename_i e; rw [e] at ho; exact ho
    · rename_i y xs e
      rw [e] at ho
      obtain ⟨a, items, e1, e2, ⟨n, e3⟩, e4, e5, e6⟩ := ho
      have e' : slotV env m' cm' y = slotV env m cm y := by
        by_cases hy : y = x
        · subst hy; rw [hx, hsl]
        · exact hsl' y hy
      exact ⟨a, items, e1, e'.trans e2, ⟨n, hs.extBut _ _ (fun q => by subst q; exact hc _ e3 ⟨_, _, rfl⟩) e3⟩, e4.mono (fun _ m => .inl m) fun b o _ e hq => hs.extBut b o (fun q => by subst q; exact hc o e hq) e, e5, e6⟩

/-- ways += e -/
theorem Ex.extend (ok : Y.Ok) {x : Str} {xp : Pos} {e : Expr} {xs ys : List V} (ho : σ.own = some (x, xs)) (he : EvTo Y n kd σ e (.list ys)) (hxs : xs.all scalarV = true) (hys : ys.all scalarV = true) (hlen : xs.length + ys.length ≤ 2 ^ 20) (hx : nameOk kd x = true) :
    Ex Y kd (.AugAssign (.Name x xp) .Add e q) σ .next ⟨σ.vars, some (x, xs ++ ys)⟩ := by
  intro A s₀ s W Pk env hr F ⟨Wf, m, cm, S, P⟩
  obtain ⟨a, items, rfl, e2, e3, e4, e5, e6⟩ := S.ownIs ho
  refine wpAny_AugAssign_Name (slot_load F S e2 ((S.ev ok hr F he).bindQ fun val h1 tk1 k1 r1 => ?_))
  obtain ⟨_, b, items2, rfl, hb, pb, rb⟩ := r1.toList
  have S1 := S.keeps (tk := tk1) k1
  have hp1 : h1.PlainList a items := by obtain ⟨n, e⟩ := e3; exact ⟨n, k1 _ _ e⟩
  have hl := e4.length
  have hl2 := rb.length
  rw [Array.length_toList] at hl hl2
  refine iadd_lists (s := { s with heap := h1, toks := tk1 }) hp1 pb (by (first | lia | omega)) fun h2 hp2 hs2 => ?_
  obtain ⟨S2, P2⟩ := S1.poke (tk := tk1) (P.keeps k1) ho hs2 hp2 (xs' := xs ++ ys) (W' := []) (by rw [Array.toList_append]; exact (e4.scalar hxs).append (rb.scalar hys)) (by rw [List.all_append, hxs, hys]; rfl) (by rw [List.length_append]; exact hlen)
  exact store_same F S2 P2 (nameOk_or hx) e2 fun s' R => ⟨rfl, R⟩

/-- a term whose end is a list made just now -/
noncomputable def GvF (prog : Program) (w : World) (A : Around) (W : List Addr) (s : Shared) (t : Sem Value) (xs : List V) : Prop :=
  wpAny (model prog w) A t (fun x s' => ∃ a h' tk' items, x = .ref a ∧ s' = { s with heap := h', toks := tk' } ∧ KeepsH s.heap h' ∧ s.heap.get? a = none ∧ h'.PlainList a items ∧ VReps W h' xs items.toList) (fun _ _ => False) s

theorem Ex.own_of {x : Str} {xp : Pos} {e : Expr} {xs : List V} (hg : ∀ A s₀ s W Wf env m cm, Room Y.lvl A → Y.Fr s₀ W env kd → SAt s₀ W Wf env m cm σ s → GvF Y.prog Y.w A (Wf ++ W) s (eval e env) xs) (hsc : xs.all scalarV = true) (hle : xs.length ≤ 2 ^ 20) (hx : nameOk kd x = true)
    (hs : ∀ env, swapsWith e (some (.Name x xp)) q.line env = pure false) : Ex Y kd (.Assign [.Name x xp] e q) σ .next (σ.setOwn x xs) := by
  intro A s₀ s W Pk env hr F ⟨Wf, m, cm, S, P⟩
  refine wpAny_Assign_Name (wpAny_mono (hg A s₀ s W Wf env m cm hr F S) (fun val s1 h => ?_) fun _ _ f => f.elim) (hs env)
  obtain ⟨a, h1, tk1, items, rfl, rfl, k1, hf, hp, r⟩ := h
  exact store_own F S P k1 (nameOk_or hx) hf hp r hsc hle fun s' _ R => ⟨rfl, R⟩

/-- x = [] -/
theorem Ex.ownNil {x : Str} {xp lp : Pos} (hx : nameOk kd x = true) : Ex Y kd (.Assign [.Name x xp] (.List [] lp) q) σ .next (σ.setOwn x []) := by
  refine Ex.own_of (fun A s₀ s W Wf env m cm hr F S => ?_) rfl (Nat.zero_le _) hx fun _ => rfl
  refine wpAny_List (Calls.spliced_nil ⟨Nat.zero_le _, _, _, _, _, rfl, rfl, push_keeps _, ?_, ⟨_, Heap.get?_push_size _ rfl⟩, .nil⟩)
  cases e : s.heap.get? s.heap.objs.size with
  | none => rfl
  | some o => exact absurd (Heap.lt_size e) (Nat.lt_irrefl _)

/-- x = list(range(..)) -/
theorem Ex.ownRange (ok : Y.Ok) {x : Str} {xp lp rp cp cp' : Pos} {es : List Expr} {vs xs : List V} (hgl : isGlob kd σ.vars "list" = true) (hgr : isGlob kd σ.vars "range" = true) (e1 : evArgs (Mine.ev Y.C n) kd σ.vars es = some vs) (e2 : rangeV vs = some xs) (hx : nameOk kd x = true) :
    Ex Y kd (.Assign [.Name x xp] (.Call (.Name "list" lp) [.Call (.Name "range" rp) es [] cp'] [] cp) q) σ .next (σ.setOwn x xs) := by
  have hxs : xs.all scalarV = true ∧ xs.length ≤ 2 ^ 20 := by
    unfold rangeV at e2
    have : ∀ a b d, okR a b d = true → (rangeVs a b d).all scalarV = true ∧ (rangeVs a b d).length ≤ 2 ^ 20 := fun a b d h => by
      obtain ⟨_, _, h3, _⟩ := okR_small h
      unfold rangeVs
      refine ⟨by rw [List.all_eq_true]; intro y hy; rw [List.mem_map] at hy; obtain ⟨i, _, rfl⟩ := hy; rfl, by simpa using h3⟩
    split at e2
    · obtain ⟨h, rfl⟩ := ite_some e2; exact this _ _ _ h
    · obtain ⟨h, rfl⟩ := ite_some e2; exact this _ _ _ h
    · obtain ⟨h, rfl⟩ := ite_some e2; exact this _ _ _ h
    · cases e2
  refine Ex.own_of (fun A s₀ s W Wf env m cm hr F S => ?_) hxs.1 hxs.2 hx fun _ => rfl
  have c := S.cx F
  unfold GvF
  refine wpAny_Call_NameR (name_builtin hgl c (ok.free _ (mem_free (by simp))) (v := .type "list") (by decide +kernel) (by decide) ?_)
  have hp : ∀ y ∈ [Expr.Call (.Name "range" rp) es [] cp'], notStar y = true := fun y hy => by rw [List.mem_singleton.mp hy]; rfl
  refine PySem.callWith_type (plain_args hp) (evalArgs_of (by simp) hp ?_)
  rw [starEach_not rfl]
  refine Calls.spliced_cons (eval_range ok (ev_sound ok n) hr hgr e1 e2 c fun r a b d t u v h' tk' hok hxs' k hR => Calls.spliced_nil ?_)
  subst hxs'
  obtain ⟨hs, hn, hle, _⟩ := okR_small hok
  refine call_list_range (s := { s with heap := h', toks := tk' }) hr.hh hR hs hn (by (first | lia | omega)) fun h2 tk acc' c' hk hD hI => ⟨_, h2, tk, acc', rfl, rfl, fun b o e => hk b o (k b o e), ?_, ⟨_, hD⟩, ?_⟩
  · cases e : s.heap.get? h'.objs.size with
    | none => rfl
    | some o => exact absurd (Heap.lt_size (k _ _ e)) (Nat.lt_irrefl _)
  · refine .of_get (by unfold rangeVs; simp [hI.1]) fun j v x hv hx => ?_
    obtain ⟨t, rfl⟩ := hI.2 j x (by simpa using hx)
    unfold rangeVs at hv
    rw [List.getElem?_map] at hv
    by_cases hi : j < rangeN a b d
    · rw [List.getElem?_range hi] at hv; cases hv; exact .int
    · rw [List.getElem?_eq_none (by simpa using hi)] at hv; cases hv

/-- x = [.. for .. in ..], held by x alone -/
theorem Ex.ownComp (ok : Y.Ok) {x : Str} {xp : Pos} {elt iter : Expr} {y : Str} {py q' : Pos} {ifs : List Expr} {sc : Scope} {xs : List V} (hc : evComp (Mine.ev Y.C n) kd σ.vars elt y iter ifs sc = some (.list xs)) (hsc : xs.all scalarV = true) (hle : xs.length ≤ 2 ^ 20) (hx : nameOk kd x = true) :
    Ex Y kd (.Assign [.Name x xp] (.ListComp elt [⟨.Name y py, iter, ifs, 0⟩] sc q') q) σ .next (σ.setOwn x xs) := by
  intro A s₀ s W Pk env hr F ⟨Wf, m, cm, S, P⟩
  have hk := nameOk_or hx
  obtain ⟨ys, eys, g⟩ := evComp_core (px := py) (pos := q') ok (ev_sound ok n) hr hc (S.cx F)
  cases eys
  rcases swaps_case (env := env) (.ListComp elt [⟨.Name y py, iter, ifs, 0⟩] sc q') x xp q.line with hs | ⟨_, _, _, _, he, hs⟩ | ⟨a, b, c, d, he⟩ | ⟨a, b, c, d, f, he⟩
  · refine wpAny_Assign_Name ?_ hs
    rw [eval_ListComp]
    refine g (use := none) fun CC D h4 tk4 m₀ k4 hn hC hD r => ?_
    refine ⟨m₀, hn, fun h5 hs5 => ?_⟩
    have k5 : KeepsH s.heap h5 := fun b o e => hs5.extBut b o (fun q => by subst q; rw [hC] at e; cases e) (k4 b o e)
    obtain ⟨_, a, items, e, ha, pa, ra⟩ := (r.but hn hs5).toList
    cases e
    exact store_own F S P k5 hk hD pa ra hsc hle fun s' _ R => ⟨rfl, R⟩
  · rw [exec_Assign_Name_used _ _ _ _ hs]
    refine wpAny_bind (wpAny_standAt (wpAny_bind ?_))
    show wpAny _ A (do let _ ← comprehension (.ListComp elt [⟨.Name y py, iter, ifs, 0⟩] sc q') sc env _ (newList []) false (eval iter env) (some (PySem.assign (Expr.Name x xp) env))) _ _ s
    refine wpAny_bind (wpAny_mono (g (use := some (PySem.assign (Expr.Name x xp) env)) (Q := fun _ s' => SRep s₀ W Pk env (σ.setOwn x xs) s') (E := fun _ _ => False) fun CC D h4 tk4 m₀ k4 hn hC hD r => ?_) (fun _ s' R => wpAny_pure (wpAny_pure ⟨rfl, R⟩)) fun _ _ f => f)
    show wpAny _ A (PySem.assign (.Name x xp) env (.ref D)) _ _ _
    have exL : ∀ c, (c = env.locals ∨ ∃ n, env.cells.lookup n = some c) → ∃ o, s.heap.get? c = some o := fun c hc => by
      rcases hc with rfl | ⟨n, hn⟩
      · obtain ⟨o, _, _, e, _⟩ := S.ic.toInCall.ns; exact ⟨o, e⟩
      · obtain ⟨o, e, _⟩ := S.ic.cell n c hn; exact ⟨o, e⟩
    have neC : ∀ c, (∃ o, s.heap.get? c = some o) → CC ≠ c := fun c ⟨o, e⟩ q => by subst q; rw [hC] at e; cases e
    obtain ⟨_, a, items, e, ha, pa, ra⟩ := r.toList
    cases e
    refine wpAny_assign_Name (store_own F S P k4 hk hD pa ra hsc hle fun s' ⟨h5, tk5, hs5, c, hcc, hc5, sb⟩ R => ?_)
    subst hs5
    have hcC : CC ≠ c := neC c (exL c hcc)
    have hn5 : h5.Ns CC m₀ := hn.sameBut sb hcC
    refine ⟨m₀, hn5, fun h6 hs6 => R.other hs6 (fun o e hq => ?_) (neC _ (exL _ (.inl rfl))) (fun n c hc => neC c (exL c (.inr ⟨n, hc⟩))) ?_ fun q hq => Ne.symm (neC _ ⟨_, (P q hq).1⟩)⟩
    · obtain ⟨o', es, ep, e1, e2, _⟩ := hn5
      obtain ⟨its, k, hq⟩ := hq
      have : o = o' := Option.some.inj (e.symm.trans e1)
      subst this
      rw [e2] at hq; cases hq
    · cases e0 : s₀.heap.get? CC with
      | none => rfl
      | some o => rw [S.ic.toInCall.keep _ _ e0] at hC; cases hC
  · cases he
  · cases he
end
end Mine
namespace Mine

section
variable {Y : Sys} {n : Nat} {kd : Kd} {σ σ₁ σ₂ : St} {f : Flw} {rest body orelse : List Stmt} {A : Around} {s₀ s : Shared} {W Wf : List Addr} {Pk : List (Addr × Obj)} {env : Env} {m cm : Str → Option Value} {st : Stmt} {q : Pos}

theorem bind_slot (ps : List Str) : ∀ (vals : List Value) (m cm : Str → Option Value), ps.Nodup → (∀ x ∈ ps, env.kindOf x = some .local ∨ env.kindOf x = some .cell) →
    (∀ x val, (ps.zip vals).lookup x = some val → slotV env (bindL env.kindOf (ps.zip vals) m) (bindC env.kindOf (ps.zip vals) cm) x = some val) ∧
    (∀ x, x ∉ ps → slotV env (bindL env.kindOf (ps.zip vals) m) (bindC env.kindOf (ps.zip vals) cm) x = slotV env m cm x) := by
  induction ps with
  | nil => intro vals m cm _ _; exact ⟨fun x val e => by simp at e, fun x _ => rfl⟩
  | cons p r ih =>
    intro vals m cm hnd hk
    cases vals with
    | nil => exact ⟨fun x val e => by simp at e, fun x _ => rfl⟩
    | cons v vs =>
      obtain ⟨hp, hnd⟩ := List.nodup_cons.mp hnd
      have hkp := hk p List.mem_cons_self
      obtain ⟨i1, i2⟩ := ih vs (if env.kindOf p = some .local then fun y => if y = p then some v else m y else m) (if env.kindOf p = some .local then cm else fun y => if y = p then some v else cm y) hnd fun x hx => hk x (List.mem_cons_of_mem _ hx)
      have e1 : bindL env.kindOf ((p :: r).zip (v :: vs)) m = bindL env.kindOf (r.zip vs) (if env.kindOf p = some .local then fun y => if y = p then some v else m y else m) := rfl
      have e2 : bindC env.kindOf ((p :: r).zip (v :: vs)) cm = bindC env.kindOf (r.zip vs) (if env.kindOf p = some .local then cm else fun y => if y = p then some v else cm y) := rfl
      rw [e1, e2]
      have head : ∀ x, slotV env (if env.kindOf p = some .local then fun y => if y = p then some v else m y else m) (if env.kindOf p = some .local then cm else fun y => if y = p then some v else cm y) x = if x = p then some v else slotV env m cm x := by
        intro x
        by_cases hxp : x = p
        · subst hxp
          rw [if_pos rfl]
          rcases hkp with h | h
          · unfold slotV; rw [if_pos h, if_pos h]; simp
          · unfold slotV; rw [if_neg (by rw [h]; decide), if_pos h, if_neg (by rw [h]; decide)]; simp
        · rw [if_neg hxp]
          unfold slotV
          rcases hkp with h | h
          · rw [if_pos h, if_pos h]; simp [hxp]
          · rw [if_neg (c := env.kindOf p = some NameKind.local) (by rw [h]; decide), if_neg (c := env.kindOf p = some NameKind.local) (by rw [h]; decide)]; simp [hxp]
      constructor
      · intro x val e
        rw [List.zip_cons_cons, List.lookup_cons] at e
        cases hx : x == p with
        | true =>
          have := beq_iff_eq.mp hx; subst this
          rw [hx] at e; cases e
          rw [i2 x hp, head, if_pos rfl]
        | false =>
          rw [hx] at e
          exact i1 x val e
      · intro x hx
        rw [i2 x fun h => hx (List.mem_cons_of_mem _ h), head, if_neg (fun (h : x = p) => hx (h ▸ List.mem_cons_self))]
theorem zip_lookup {W : List Addr} {h : Heap} : ∀ (ps : List Str) {args : List V} {vals : List Value} {x : Str} {v : V}, VReps W h args vals → (ps.zip args).lookup x = some v → ∃ val, (ps.zip vals).lookup x = some val ∧ VRep W h v val
  | [], _, _, _, _, _, e => by simp at e
  | p :: r, [], _, _, _, _, e => by simp at e
  | p :: r, a :: as, vals, x, v, rr, e => by
    obtain ⟨y, l, rfl, r1, r2⟩ := rr.uncons
    rw [List.zip_cons_cons, List.lookup_cons] at e ⊢
    cases hx : x == p with
    | true => rw [hx] at e; cases e; exact ⟨y, rfl, r1⟩
    | false => rw [hx] at e; exact zip_lookup r r2 e

theorem CallOk.mono {prog : Program} {w : World} {K : Frag} {p : Program} {loose : List Str} {mg mb : Str → Option Value} {l l' : Nat} {a : Addr} {args : List V} {v : V} (h : l ≤ l') (c : CallOk prog w K p loose mg mb l a args v) : CallOk prog w K p loose mg mb l' a args v :=
  fun A s W vals hr => c A s W vals (hr.le h)

/-- a def's object, as the kit's fragment shows it -/
structure DefAt (Y : Sys) (a : Addr) (ps : List Str) (kd : Kd) (body : List Stmt) : Prop where
  ok : ∃ oc od osl fd, Y.K.lookup a = some ⟨oc, od, .func fd, osl⟩ ∧ codeIn Y.K fd.code fd.qualname = true ∧ fd.body = .stmts body ∧ fd.scope.names = kd ∧ fd.closure = [] ∧ fd.globals = mainGlobals ∧ fd.builtins = builtinsNs ∧
    fd.scope.isCoroutine = false ∧ fd.scope.isGenerator = false ∧ fd.scope.kind = .function ∧ ∀ vals : List Value, vals.length = ps.length → bindArgs fd ⟨vals, []⟩ = pure (ps.zip vals)
  pk : (ps.all fun x => nameOk kd x) = true
  nd : ps.Nodup
  dbg : kd.lookup ("__debug__" : Str) = none

theorem call_enter {a : Addr} {ps : List Str} {args : List V} {vals : List Value} (D : DefAt Y a ps kd body) (hlen : args.length = ps.length) (hr : Room (Y.lvl + 1) A) (g : GF Y.K Y.p Y.loose Y.mg Y.mb s.heap) (hW : ∀ a ∈ W, ∃ o, s.heap.get? a = some o) (r : VReps W s.heap args vals)
    {Q E : Value → Shared → Prop}
    (h : ∀ A' env s₁, Room Y.lvl A' → (A' = A.deeper env ∧ ∃ fd, env = callEnvC fd s.heap.objs.size a ∧ fd.scope.names = kd ∧ fd.globals = mainGlobals ∧ fd.builtins = builtinsNs) → Y.Fr s W env kd → SRep s W [] env ⟨ps.zip args, none⟩ s₁ → wpAny Y.M A' (execs body env) (fun f s' => Q (match f with | .ret v => v | _ => .none) s') (fun e s' => wpAny Y.M A' (leaving env e) (fun _ s'' => E e s'') (fun e' s'' => E e' s'') s') s₁) :
    wpAny Y.M A (call (.ref a) vals) Q E s := by
  obtain ⟨oc, od, osl, fd, ho, hcd, hb, hkd, hclo, hgl, hbl, hco, hgen, hk, hbind⟩ := D.ok
  have hvl : vals.length = ps.length := by rw [r.length, hlen]
  have hkinds : ∀ x ∈ ps, fd.scope.names.lookup x = some .local ∨ fd.scope.names.lookup x = some .cell := fun x hx => by
    have := D.pk
    rw [List.all_eq_true] at this
    rw [hkd]; exact nameOk_or (this x hx)
  have hmem : ∀ y ∈ ps.zip vals, y.1 ∈ ps := fun y hy => (List.of_mem_zip (a := y.1) (b := y.2) hy).1
  refine wpAny_call (codeAny_call_cells (R := fun r s' => match r with | .ok (.ret v) => Q v s' | .ok _ => False | .error e => E e s') hr.dep (g.1 _ _ ho) rfl g.2.nolimit (codeRec_of g.1 hcd) hb (hbind vals hvl) hclo (fun x hx => ?_) (fun s₁ ic => ?_) hco hgen hk)
  · rcases hkinds x.1 (hmem x hx) with h | h
    · exact .inl h
    · exact .inr ⟨h, cellsFrom_some _ _ _ (.inl h)⟩
  · generalize henv : callEnvC fd s.heap.objs.size a = env at ic ⊢
    have hsc : env.scope = fd.scope := by rw [← henv]; rfl
    have hbs := bind_slot (env := env) ps vals (fun _ => none) (fun _ => none) D.nd fun x hx => by unfold Env.kindOf; rw [hsc]; exact hkinds x hx
    refine h _ env s₁ hr.deeper ⟨rfl, fd, henv.symm, hkd, hgl, hbl⟩ ⟨g, hW, by rw [hsc]; exact hk, by rw [← henv]; exact hgl, by rw [← henv]; exact hbl, by rw [hsc]; exact hkd, D.dbg, fun n hn => by rw [← henv]; exact cellsFrom_some _ _ _ (.inl (hkd ▸ hn))⟩ ⟨[], _, _, ⟨ic, fun x v e => ?_, rfl⟩, fun q hq => by cases hq⟩
    obtain ⟨val, e1, e2⟩ := zip_lookup ps r e
    obtain ⟨h₁, tk₁, hsame⟩ := ic.toInCall.same
    exact ⟨val, hbs.1 x val e1, e2.keeps ic.toInCall.keep⟩

theorem CallOk.of_run {a : Addr} {ps : List Str} {args : List V} {v : V} (D : DefAt Y a ps kd body) (hlen : args.length = ps.length) (run : Run Y kd body ⟨ps.zip args, none⟩ (.ret v) σ) :
    CallOk Y.prog Y.w Y.K Y.p Y.loose Y.mg Y.mb (Y.lvl + 1) a args v := by
  intro A s W vals hr g hW r
  refine call_enter D hlen hr g hW r fun A' env s₁ hr' _ F R => ?_
  refine wpAny_mono (run A' s s₁ W [] env hr' F R) (fun fl s' q => ?_) fun _ _ f => f.elim
  obtain ⟨val, h', tk', rfl, rfl, k, rv⟩ := q
  exact ⟨h', tk', rfl, k, rv⟩
end
end Mine
namespace Mine

/-- for x in (the own list): y = e -/
inductive FoldTo (Y : Sys) (kd : Kd) (x y : Str) (e : Expr) : List V → St → St → Prop where
  | done {σ : St} : FoldTo Y kd x y e [] σ σ
  | turn {n : Nat} {v u : V} {vs : List V} {σ σ₂ : St} : EvTo Y n kd (σ.set x v) e u → FoldTo Y kd x y e vs ((σ.set x v).set y u) σ₂ → FoldTo Y kd x y e (v :: vs) σ σ₂

section
variable {Y : Sys} {n : Nat} {kd : Kd} {σ σ₁ σ₂ : St} {f : Flw} {rest body orelse : List Stmt} {A : Around} {s₀ s : Shared} {W Wf : List Addr} {Pk : List (Addr × Obj)} {env : Env} {m cm : Str → Option Value} {st : Stmt} {q : Pos}

theorem own_set {o x : Str} {xs : List V} {v : V} (ho : σ.own = some (o, xs)) (hne : o ≠ x) : (σ.set x v).own = some (o, xs) := by
  unfold St.set
  rw [ho]
  have : (o == x) = false := by simpa using hne
  simp [this]

theorem store_fix {M : Model} {E : Value → Shared → Prop} {a : Addr} {o x : Str} {xs : List V} {v : V} {val : Value} (F : Y.Fr s₀ W env kd) (S : SAt s₀ W [a] env m cm σ s) (P : PkOk Pk env [a] s.heap) (ho : σ.own = some (o, xs)) (hne : o ≠ x) (hk : kd.lookup x = some .local ∨ kd.lookup x = some .cell)
    (r : VRep ([a] ++ W) s.heap v val) {Q : Unit → Shared → Prop}
    (h : ∀ h' tk m' cm' c, (∀ o, s.heap.get? c = some o → ¬ isSeqObj o) → Heap.SameBut c s.heap h' → (c = env.locals ∨ ∃ n, env.cells.lookup n = some c) → SAt s₀ W [a] env m' cm' (σ.set x v) { s with heap := h', toks := tk } → PkOk Pk env [a] h' → Q () { s with heap := h', toks := tk }) : wpAny M A (storeName env x val) Q E s := by
  refine store_at F S.ic hk fun c h' tk m' cm' hcc hc hs ic hx hsl => ?_
  obtain ⟨Wf', hw, S'⟩ := S.poked hc hs ic hx hsl r
  obtain ⟨a', items, e1, _⟩ := S'.ownIs (own_set ho hne)
  subst e1
  have := hw a' (List.mem_singleton.mpr rfl)
  rw [List.mem_singleton] at this
  subst this
  exact h h' tk m' cm' c hc hs hcc S' (P.poke hcc hs fun _ _ _ h => h)

noncomputable def FoldI (Y : Sys) (kd : Kd) (x y : Str) (e : Expr) (o : Str) (xs : List V) (s₀ : Shared) (W : List Addr) (env : Env) (Pk : List (Addr × Obj)) (a I : Addr) (items : Array Value) (σ₂ : St) (k : Nat) (s' : Shared) : Prop :=
  ∃ i σi m cm, k = xs.length - i ∧ i ≤ xs.length ∧ FoldTo Y kd x y e (xs.drop i) σi σ₂ ∧ σi.own = some (o, xs) ∧ SAt s₀ W [a] env m cm σi s' ∧ PkOk Pk env [a] s'.heap ∧ s'.heap.IsListIter I a i ∧ s'.heap.PlainList a items

theorem Ex.forOwn (ok : Y.Ok) {x y o : Str} {px pw yp q' : Pos} {e : Expr} {xs : List V} (ho : σ.own = some (o, xs)) (hox : o ≠ x) (hoy : o ≠ y) (hx : nameOk kd x = true) (hy : nameOk kd y = true) (hxs : xs.all scalarV = true)
    (hs : ∀ env, swapsWith e (some (.Name y yp)) q'.line env = pure false) (h : FoldTo Y kd x y e xs σ σ₂) :
    Ex Y kd (.For (.Name x px) (.Name o pw) [.Assign [.Name y yp] e q'] [] q) σ .next σ₂ := by
  intro A s₀ s W Pk env hr F ⟨Wf, m, cm, S, P0⟩
  obtain ⟨a, items, rfl, e2, e3, e4, e5, e6⟩ := S.ownIs ho
  have hl := PlainList.isList e3
  have hane : a ≠ s.heap.objs.size := by obtain ⟨n, e⟩ := e3; exact Nat.ne_of_lt (Heap.lt_size e)
  have hlen := e4.length
  rw [Array.length_toList] at hlen
  refine wpAny_For (slot_eval F S e2 (wpAny_pyIter_list hl ?_))
  generalize hI : s.heap.objs.size = I at hane ⊢
  have hfresh : ∀ b, (∃ o, s.heap.get? b = some o) → b ≠ I := fun b ⟨o, e⟩ q => by subst q; subst hI; exact absurd (Heap.lt_size e) (Nat.lt_irrefl _)
  have hI0 : s₀.heap.get? I = none := by
    cases e0 : s₀.heap.get? I with
    | none => rfl
    | some o => exact absurd rfl (hfresh I ⟨o, S.ic.toInCall.keep _ _ e0⟩)
  have hIL : I ≠ env.locals := fun e => by
    obtain ⟨o, es, ep, e1, _⟩ := S.ic.toInCall.ns
    exact hfresh _ ⟨o, e1⟩ e.symm
  have hIc : ∀ n c, env.cells.lookup n = some c → I ≠ c := fun n c hc e => by
    obtain ⟨o, e1, _⟩ := S.ic.cell n c hc
    exact hfresh _ ⟨o, e1⟩ e.symm
  have hIP : ∀ q ∈ Pk, q.1 ≠ I := fun q hq => hfresh _ ⟨_, (P0 q hq).1⟩
  have Wk := Walks.list (prog := Y.prog) (w := Y.w) (A := A) hr.hh I a hane items
  have kp : KeepsH s.heap (s.heap.push { cls := .type "list_iterator", data := .fields #[.ref a, .int 0 0] }) := push_keeps _
  refine codeAny_forLoop (FoldI Y kd x y e o xs s₀ W env Pk a I items σ₂) (fun k s' hk => ?_) (xs.length - 0)
    ⟨0, σ, m, cm, rfl, Nat.zero_le _, h, ho, S.keeps kp, P0.keeps kp, ⟨_, by rw [← hI]; exact Heap.get?_push_size _ rfl, rfl, rfl⟩, (by obtain ⟨n, e⟩ := e3; exact ⟨n, kp _ _ e⟩)⟩
  obtain ⟨i, σi, m, cm, rfl, hi, hf, hoi, S, P, hit, hpl⟩ := hk
  have nI' : ∀ o, s'.heap.get? I = some o → ¬ isSeqObj o := fun o e hq => by
    obtain ⟨o', e1, e2, e3⟩ := hit
    obtain ⟨its, n, hq⟩ := hq
    have : o = o' := Option.some.inj (e.symm.trans e1)
    subst this
    rw [e3] at hq; cases hq
  have st : s'.heap.IsListIter I a i ∧ s'.heap.IsList a items := ⟨hit, PlainList.isList hpl⟩
  by_cases hlt : i < xs.length
  · refine Wk.item i s' _ _ (by (first | lia | omega)) st fun v h4 tk4 hPv st4 hk4 => ?_
    have hk4' : ∀ b o, b ≠ I → s'.heap.get? b = some o → h4.get? b = some o := fun b o hb e => hk4 b o (by rw [List.mem_singleton]; exact hb) e
    have S4 : SAt s₀ W [a] env m cm σi { s' with heap := h4, toks := tk4 } := S.off nI' hIL hIc hI0 hk4'
    have P4 : PkOk Pk env [a] h4 := fun q hq => let ⟨a1, a2⟩ := P q hq; ⟨hk4' _ _ (hIP q hq) a1, a2⟩
    have hpl4 : h4.PlainList a items := by obtain ⟨n, e⟩ := hpl; exact ⟨n, hk4' _ _ hane e⟩
    have exi : xs[i]? = some xs[i] := List.getElem?_eq_getElem hlt
    have rv : VRep ([a] ++ W) h4 xs[i] v := by
      obtain ⟨z, ez, rz⟩ := e4.get exi
      rw [Array.getElem?_toList, hPv] at ez
      cases ez
      exact rz.scalar (by rw [List.all_eq_true] at hxs; exact hxs _ (List.getElem_mem hlt))
    have hd : xs.drop i = xs[i] :: xs.drop (i + 1) := List.drop_eq_getElem_cons hlt
    rw [hd] at hf
    cases hf with
    | turn he hw =>
      refine wpAny_assign_Name (store_fix F S4 P4 hoi hox (nameOk_or hx) rv fun h5 tk5 m5 cm5 c5 hc5 sb5 hcc5 S5 P5 => ?_)
      refine wpAny_execs_cons (wpAny_Assign_Name ((S5.ev ok hr F he).bindQ fun val h6 tk6 k6 r6 => ?_) (hs env))
      refine store_fix F (S5.keeps (tk := tk6) k6) (P5.keeps k6) (own_set hoi hox) hoy (nameOk_or hy) r6 fun h7 tk7 m7 cm7 c7 hc7 sb7 hcc7 S7 P7 => ?_
      refine wpAny_execs_nil ?_
      have hne : ∀ c, (c = env.locals ∨ ∃ n, env.cells.lookup n = some c) → I ≠ c := fun c hc => by
        rcases hc with rfl | ⟨n, hn⟩
        · exact hIL
        · exact hIc n c hn
      refine ⟨xs.length - (i + 1), by (first | lia | omega), i + 1, _, m7, cm7, rfl, hlt, hw, own_set (own_set hoi hox) hoy, S7, P7, ?_, ?_⟩
      · obtain ⟨⟨o', e1, e2, e3⟩, _⟩ := st4
        exact ⟨o', sb7.extBut _ _ (hne c7 hcc7) (k6 _ _ (sb5.extBut _ _ (hne c5 hcc5) e1)), e2, e3⟩
      · obtain ⟨n, e⟩ := hpl4
        have e5' : h5.get? a = _ := sb5.extBut _ _ (fun q => by subst q; exact hc5 _ e ⟨_, _, rfl⟩) e
        exact ⟨n, sb7.extBut _ _ (fun q => by subst q; exact hc7 _ (k6 _ _ e5') ⟨_, _, rfl⟩) (k6 _ _ e5')⟩
  · have hin : i = xs.length := Nat.le_antisymm hi (Nat.not_lt.mp hlt)
    subst hin
    rw [List.drop_length] at hf
    cases hf
    refine Wk.done s' _ _ (by rw [hlen]; exact st) fun h4 tk4 hk4 => ?_
    have hk4' : ∀ b o, b ≠ I → s'.heap.get? b = some o → h4.get? b = some o := fun b o hb e => hk4 b o (by rw [List.mem_singleton]; exact hb) e
    exact wpAny_execs_nil ⟨rfl, [a], m, cm, S.off nI' hIL hIc hI0 hk4', fun q hq => let ⟨a1, a2⟩ := P q hq; ⟨hk4' _ _ (hIP q hq) a1, a2⟩⟩
end
end Mine
namespace Mine
open Builtin Builtin.Str Builtin.BaseException Builtin.Exceptions

section
variable {prog : Program} {w : World} {A : Around} {E : Value → Shared → Prop} {h : Heap} {g : Array GenState} {d : Drawn} {t : Nat} {os : OsState} {a : Addr} {o : Obj} {vs : Array Value} {t0 : Addr}
  {nm q : Str} {C N : Addr} {bs bm bmB : List Value} {hdct : Bool} {sn : List Str} {sub : List Value} {ab : Bool} {col : Option Bool} {dd : Option Addr} {k0 k1 k2 k3 k5 : Option Value} {newId : String}

theorem bstr_check {M : Model} {Q : Unit → Shared → Prop} (hC : h.get? C = some (excClassObj nm q C N bs bm hdct sn sub ab col dd k0 k1 k2 k3 k5 newId)) (hbase : bm.contains (.type "BaseException") = true)
    (hx : h.get? a = some o) (hc : o.cls = .ref C) (hq : Q () ⟨h, g, d, t, os⟩) : wpAny M A (checkBuiltinCall "BaseException.__str__" ⟨[.ref a], []⟩) Q E ⟨h, g, d, t, os⟩ := by
  have hk : builtinKind "BaseException.__str__" = some .slot := by decide +kernel
  have hsplit : splitId "BaseException.__str__" = some ("BaseException", "__str__") := by decide +kernel
  have hcB : (Value.ref C :: bm).contains (.type "BaseException") = true := by rw [List.contains_cons, hbase]; rfl
  have ha := PySem.F.args_bexc_str (.ref a)
  simp only [checkBuiltinCall, hk, hsplit]
  refine wpAny_bind ?_
  unfold isInstance
  repeat (first | (with_reducible refine wpAny_loadPart_at hx ?_; rw [hc]) | (with_reducible refine wpAny_isSubtype_exc hC ?_; rw [hcB]) | wp_step)
  exact hq

theorem bstr_args {M : Model} {items : List Value} {Q : Value × List Value → Shared → Prop} {s : Shared} (hx : s.heap.get? a = some o) (hd : o.data = .fields vs) (h0 : vs[0]? = some (.ref t0)) (ht : s.heap.TupAt t0 items) (hq : Q (.ref t0, items) s) :
    wpAny M A (bexcArgs (.ref a)) Q E s := by
  obtain ⟨ot, k, hto, _, htd⟩ := ht
  unfold bexcArgs
  refine wpAny_bind (wpAny_field hx hd h0 (wpAny_bind (wpAny_seqItems hto htd ?_)))
  have : items.toArray.toList = items := by simp
  show wpAny M A (pure (Value.ref t0, items.toArray.toList)) Q E s
  rw [this]; exact wpAny_pure hq

theorem bstr_call {m : Str} {tk : Tok} {Q : Value → Shared → Prop} (hC : h.get? C = some (excClassObj nm q C N bs bm hdct sn sub ab col dd k0 k1 k2 k3 k5 newId)) (hbase : bm.contains (.type "BaseException") = true)
    (hx : h.get? a = some o) (hc : o.cls = .ref C) (hd : o.data = .fields vs) (h0 : vs[0]? = some (.ref t0)) (ht : h.TupAt t0 [.str m tk]) (hq : Q (.str m tk) ⟨h, g, d, t, os⟩) :
    wpAny (model prog w) A (call (.builtin "BaseException.__str__") [.ref a]) Q E ⟨h, g, d, t, os⟩ := by
  refine wpAny_call (codeAny_call_builtin PySem.F.excStr_Exception.str.plain PySem.F.entry_bexc_str (bstr_check hC hbase hx hc ?_))
  unfold Builtin.«BaseException.__str__»
  repeat (first | with_reducible refine bstr_args hx hd h0 ht ?_ | wp_step)
  exact hq

theorem bstr_strOf {K : Frag} {m : Str} {tk : Tok} {Q : Value → Shared → Prop} (hu : A.units < cLine) (X : K.In h) (hf : findIn K (.ref C) "__str__" = some (some (.builtin "BaseException.__str__")))
    (hC : h.get? C = some (excClassObj nm q C N bs bm hdct sn sub ab col dd k0 k1 k2 k3 k5 newId)) (hbase : bm.contains (.type "BaseException") = true)
    (hx : h.get? a = some o) (hc : o.cls = .ref C) (hd : o.data = .fields vs) (h0 : vs[0]? = some (.ref t0)) (ht : h.TupAt t0 [.str m tk]) (hq : Q (.str m tk) ⟨h, g, d, t, os⟩) :
    wpAny (model prog w) A (PySem.Builtin.Str.strOf (.ref a)) Q E ⟨h, g, d, t, os⟩ := by
  unfold PySem.Builtin.Str.strOf
  rw [show isExactStr (.ref a) = false from rfl]
  refine wpAny_bind (m := cRoomFor _ _) (wpAny_cRoomFor hu ?_)
  have hty : Looks (model prog w) h (typeOf (.ref a)) (.ref C) := by
    rw [← hc]; exact (Looks.ld hx).andThen .now
  have hw : typeOf (.builtin "BaseException.__str__") = pure (.type "wrapper_descriptor") := rfl
  refine wpAny_bind (m := callSpecial? (.ref a) (Str.ofString "__str__")) ?_
  unfold callSpecial? specialOf
  refine wpAny_bind (wpAny_bind (hty.at ((looks_findIn X hf).at ?_)))
  dsimp only
  refine wpAny_holding ?_
  unfold bindSpecial
  refine wpAny_bind (wpAny_bind (wpAny_of_eq hw ?_))
  refine wpAny_pure ?_
  refine wpAny_bind (bstr_call hC hbase hx hc hd h0 ht (wpAny_pure ?_))
  exact wpAny_pure hq

/-- str(e), e of an own exception class, made from one text -/
theorem bstr_str {K : Frag} {m : Str} {tk : Tok} {Q : Value → Shared → Prop} (hu : A.units + 2 < cLine) (X : K.In h) (hf : findIn K (.ref C) "__str__" = some (some (.builtin "BaseException.__str__")))
    (hC : h.get? C = some (excClassObj nm q C N bs bm hdct sn sub ab col dd k0 k1 k2 k3 k5 newId)) (hbase : bm.contains (.type "BaseException") = true)
    (hx : h.get? a = some o) (hc : o.cls = .ref C) (hd : o.data = .fields vs) (h0 : vs[0]? = some (.ref t0)) (ht : h.TupAt t0 [.str m tk]) (hq : Q (.str m tk) ⟨h, g, d, t, os⟩) :
    wpAny (model prog w) A (call (.type "str") [.ref a]) Q E ⟨h, g, d, t, os⟩ := by
  refine callType_codes (T := "str") (Bi := Builtin.«object.__init__») (Q₁ := fun r s₁ => r = .str m tk ∧ s₁ = ⟨h, g, d, t, os⟩) PySem.F.called_str (PySem.F.typeCall_str_1 _) PySem.F.entry_object_init ?_ ?_
  · refine codeAny_of_tree ?_
    show wpAny _ A.in1.in1 (do checkBuiltinCall "str.__new__" ⟨[.type "str", .ref a], []⟩; again (.builtin "str.__new__" ⟨[.type "str", .ref a], []⟩)) _ _ _
    refine wpAny_bind (wpAny_of_eq (PySem.F.newCall_str_1 _) (wpAny_pure ⟨plainId_quiet (by decide +kernel) _, codeAny_builtin PySem.F.entry_str_new ?_⟩))
    rw [Around.under_plainId (by decide +kernel) _]
    rw [str_new_tree]
    refine wpAny_bind (wpAny_pure ?_)
    refine wpAny_bind (wpAny_of_eq isSubtype_str_str ?_)
    exact wpAny_bind (bstr_strOf (show A.units + 1 + 1 < cLine from hu) X hf hC hbase hx hc hd h0 ht (wpAny_pure ⟨rfl, rfl⟩))
  · rintro obj s₁ ⟨rfl, rfl⟩
    exact ⟨typeIs_str _ _ _, PySem.F.args_object_init_2 _ _, object_init_meets PySem.F.called_str.init.lookup PySem.F.called_str.made (by decide) prog w A.in1 _ _ ⟨typeIs_str _ _ _, rfl, hq⟩⟩
end
end Mine
namespace Mine

theorem fr_of {s₀ s : Shared} {L : Addr} {m cm : Str → Option Value} {cs : List (Str × Addr)} (ic : InCallC s₀ L m cs cm s) : Fr s₀.heap L s.heap m := ⟨ic.toInCall.ns, ic.toInCall.keep, ic.toInCall.fresh⟩
theorem cellsFrom_none : ∀ (names : List (Str × NameKind)) (n : Nat) (acc : List (Str × Addr)), (∀ y ∈ names, y.2 ≠ .cell) → cellsFrom n names acc = acc
  | [], _, _, _ => rfl
  | (x, k) :: r, n, acc, h => by
    unfold cellsFrom
    have hk : (k == NameKind.cell) = false := by
      have := h (x, k) List.mem_cons_self
      cases k <;> first | rfl | exact absurd rfl this
    rw [hk]
    simp only [Bool.false_eq_true, if_false]
    exact cellsFrom_none r n acc fun y hy => h y (List.mem_cons_of_mem _ hy)
theorem callEnv_envOf {fd : FuncData} {L a : Addr} (hnc : ∀ y ∈ fd.scope.names, y.2 ≠ .cell) (hg : fd.globals = mainGlobals) (hb : fd.builtins = builtinsNs) : callEnvC fd L a = envOf fd.qualname fd.scope L a fd.code := by
  unfold callEnvC newEnv envOf
  rw [cellsFrom_none _ _ _ hnc, hg, hb]

/-- a block that ends in a raise of an own class with one text -/
noncomputable def RunX (Y : Sys) (kd : Kd) (stmts : List Stmt) (σ : St) (C : Addr) (v : V) : Prop :=
  ∀ A s₀ s W Pk nm sc L a cd, Room Y.lvl A → Y.Fr s₀ W (envOf nm sc L a cd) kd → SRep s₀ W Pk (envOf nm sc L a cd) σ s →
    wpAny Y.M A (execs stmts (envOf nm sc L a cd)) (fun _ _ => False) (fun e s' => ∃ ea h h' tk val m, e = .ref ea ∧ s' = { s₀ with heap := h', toks := tk } ∧ Heap.MadeExcOf h h' ea (.ref C) [val] ∧ Fr s₀.heap L h m ∧ VRep W h v val) s

section
variable {Y : Sys} {n : Nat} {kd : Kd} {σ σ₁ σ₂ : St} {f : Flw} {rest body orelse : List Stmt} {A : Around} {s₀ s : Shared} {W Wf : List Addr} {Pk : List (Addr × Obj)} {env : Env} {m cm : Str → Option Value} {st : Stmt} {q : Pos} {C : Addr} {v : V}

theorem RunX.step (h : Ex Y kd st σ .next σ₁) (r : RunX Y kd rest σ₁ C v) : RunX Y kd (st :: rest) σ C v := fun A s₀ s W Pk nm sc L a cd hr F R =>
  wpAny_execs_cons (wpAny_mono (h A s₀ s W Pk _ hr F R) (fun fl s' q => by
    obtain ⟨rfl, R'⟩ := q
    exact r A s₀ s' W Pk nm sc L a cd hr F R') fun _ _ e => e.elim)
theorem RunX.ite (ok : Y.Ok) {c : Expr} {b : Bool} (hc : TsTo Y n kd σ c b) (h : RunX Y kd (if b = true then body else orelse) σ C v) : RunX Y kd (.If c body orelse q :: rest) σ C v := by
  intro A s₀ s W Pk nm sc L a cd hr F ⟨Wf, m, cm, S, P⟩
  refine wpAny_execs_cons (wpAny_mono (Q := fun _ _ => False) (wpAny_If ((S.ts ok hr F hc).bindQ fun h1 tk1 k1 => ?_)) (fun _ _ f => f.elim) fun _ _ e => e)
  have := h A s₀ { s with heap := h1, toks := tk1 } W Pk nm sc L a cd hr F ⟨Wf, m, cm, S.keeps k1, P.keeps k1⟩
  cases b
  · simpa using this
  · simpa using this
theorem RunX.raise (ok : Y.Ok) {x : Str} {np cpos : Pos} {e : Expr} {bm : List Value} {B newId initId : String} (he : EvTo Y n kd σ e v) (hst : notStar e = true) (hg : kd.lookup x = some .globalImplicit)
    (hx : nsIn Y.K mainGlobals x = some (some (.ref C))) (hq : excIn Y.K C bm newId = true) (FB : ExcBaseFacts B newId initId bm) : RunX Y kd (.Raise (some (.Call (.Name x np) [e] [] cpos)) none q :: rest) σ C v := by
  intro A s₀ s W Pk nm sc L a cd hr F ⟨Wf, m, cm, S, P⟩
  have hne : starEach (e :: []) (envOf nm sc L a cd) = (false, eval e (envOf nm sc L a cd)) :: starEach [] (envOf nm sc L a cd) := starEach_not hst
  have hd : (x == ("__debug__" : Str)) = false := by
    cases h : x == ("__debug__" : Str) with
    | false => rfl
    | true => have := beq_iff_eq.mp h; subst this; rw [F.dbg] at hg; cases hg
  have hkd : (envOf nm sc L a cd).kindOf x = some .globalImplicit := by unfold Env.kindOf; rw [F.kdE]; exact hg
  refine wpAny_execs_cons (wpAny_mono (Q := fun _ _ => False) (Raise_own (Fr.mk (h₀ := s₀.heap) S.ic.toInCall.ns S.ic.toInCall.keep S.ic.toInCall.fresh) F.gf.2.g (own_of_in F.gf.1 F.gf.2 hx hq) FB hr.hh ?_ hne rfl F.fn hkd hd) (fun _ _ f => f.elim) fun _ _ e => e)
  rw [hne]
  refine Calls.spliced_cons ((S.ev ok hr F he).bindQ fun val h1 tk1 k1 r1 => Calls.spliced_nil ?_)
  refine ⟨by rw [sizeLine_eq]; show (1 : Nat) ≤ _; decide, fun b o e => k1 b o (S.ic.toInCall.keep b o e), fun h' ea hm => ?_⟩
  obtain ⟨h₁, tk₁, hsame⟩ := S.ic.toInCall.same
  have S1 := S.keeps (tk := tk1) k1
  exact ⟨ea, h1, h', tk1, val, m, rfl, by rw [hsame], hm, fr_of S1.ic, r1.mono (fun a m => .inl (List.mem_append_right _ m)) fun _ _ _ e _ => e⟩

/-- a call that raises -/
theorem call_raise {a : Addr} {ps : List Str} {args : List V} {vals : List Value} {base : Heap} {outer : List Env} (D : DefAt Y a ps kd body) (hnc : ∀ y ∈ kd, y.2 ≠ .cell) (hlen : args.length = ps.length) (run : RunX Y kd body ⟨ps.zip args, none⟩ C v)
    (hr : Room (Y.lvl + 1) A) (g : GF Y.K Y.p Y.loose Y.mg Y.mb s.heap) (hW : ∀ a ∈ W, ∃ o, s.heap.get? a = some o) (r : VReps W s.heap args vals) (B : Below A base outer s.heap) {Q E : Value → Shared → Prop}
    (h : ∀ ea t h' tk val, RaisedS base s.heap outer ea (.ref C) t [val] [] h' → s.heap.UpToSlots h' → (∃ h₁, VRep W h₁ v val) → E (.ref ea) { s with heap := h', toks := tk }) : wpAny Y.M A (call (.ref a) vals) Q E s := by
  refine call_enter D hlen hr g hW r fun A' env s₁ hr' hA F R => ?_
  obtain ⟨rfl, fd, rfl, hkd, hgl, hbl⟩ := hA
  rw [callEnv_envOf (by rw [hkd]; exact hnc) hgl hbl] at hr' F R ⊢
  refine wpAny_mono (run _ s s₁ W [] _ _ _ _ _ hr' F R) (fun _ _ f => f.elim) fun e s' q => ?_
  obtain ⟨ea, h0, h', tk, val, m, rfl, rfl, hm, FF, rv⟩ := q
  exact leave_raiseS (s' := { s with heap := h', toks := tk }) B hm FF News.nil (fun h2 t R _ U => h ea t h2 tk val R U ⟨h0, rv⟩) F.fn
end
end Mine
namespace Mine

section
variable {Y : Sys} {n : Nat} {kd : Kd} {σ σ₁ σ₂ : St} {f : Flw} {rest body orelse : List Stmt} {A : Around} {s₀ s : Shared} {W Wf : List Addr} {Pk : List (Addr × Obj)} {env : Env} {m cm : Str → Option Value} {st : Stmt} {q : Pos} {C : Addr} {v : V}

/-- a call's contract: it raises an own class with one value -/
noncomputable def CallX (Y : Sys) (a : Addr) (args : List V) (C : Addr) (v : V) : Prop :=
  ∀ A s W vals base outer, Room Y.lvl A → GF Y.K Y.p Y.loose Y.mg Y.mb s.heap → (∀ a ∈ W, ∃ o, s.heap.get? a = some o) → VReps W s.heap args vals → Below A base outer s.heap → ∀ (Q E : Value → Shared → Prop),
    (∀ ea t h' tk val, RaisedS base s.heap outer ea (.ref C) t [val] [] h' → s.heap.UpToSlots h' → (∃ h₁, VRep W h₁ v val) → E (.ref ea) { s with heap := h', toks := tk }) → wpAny Y.M A (call (.ref a) vals) Q E s
theorem CallX.of_run {a : Addr} {ps : List Str} {args : List V} (l : Nat) (D : DefAt Y a ps kd body) (hnc : ∀ y ∈ kd, y.2 ≠ .cell) (hlen : args.length = ps.length) (run : RunX Y kd body ⟨ps.zip args, none⟩ C v) (hl : Y.lvl + 1 ≤ l) {C' : Cfg} :
    CallX { Y with lvl := l, C := C' } a args C v := fun _ _ _ _ _ _ hr g hW r B _ _ h => call_raise D hnc hlen run (hr.le hl) g hW r B h

/-- pre + str(fault), returned -/
theorem suite_ret {g₀ g : Heap} {s' : Shared} {L a e t : Addr} {cd : Value} {nm : Str} {sc : Scope} {fs : List Addr} {news : List (Addr × Obj)} {msg pre nF : Str} {tk0 : Tok} {A' A₁ : Around} {p1 p2 p3 p4 p5 p6 pos : Pos} {E : Value → Shared → Prop} {Q : Flow → Shared → Prop}
    (T : KtsTurn fs g₀ g) (F : Fr g L s'.heap (fun y => if y = nF then some (.ref e) else m y)) (N : News g L s'.heap news) (G : Got news e t (.ref C) [.str msg tk0]) (X : Y.K.In g) (TT : TopRead Y.p Y.loose Y.mg Y.mb g) (hu : A'.units + 2 < cLine)
    (hstr : nsIn Y.K mainGlobals "str" = some none) (hf : findIn Y.K (.ref C) "__str__" = some (some (.builtin "BaseException.__str__"))) (hcls : ktsIn Y.K C "BaseException" = true)
    (hk : sc.kind = .function) (hn : (envOf nm sc L a cd).kindOf nF = some .local) (hks : (envOf nm sc L a cd).kindOf "str" = some .globalImplicit) (hdn : (nF == ("__debug__" : Str)) = false) (hle : pre.length + msg.length ≤ 2 ^ 20)
    (hQ : ∀ h' tk tk', KeepsW fs g₀ h' → Q (.ret (.str (pre ++ msg) tk)) { s' with heap := h', toks := tk' }) :
    wpAny Y.M A' (execs [.Return (some (.BinOp (.Constant (.str pre) 0 p1) .Add (.Call (.Name "str" p2) [.Name nF p3] [] p4) p5)) p6] (envOf nm sc L a cd))
      (fun f s₄ => wpAny Y.M A₁ (do bindName (envOf nm sc L a cd) nF .none; unbindBehindTheSuite (envOf nm sc L a cd) nF pos) (fun _ s₅ => Q f s₅) E s₄) (fun _ _ => False) s' := by
  refine wpAny_execs_cons (wpAny_Return_some (wpAny_BinOp (wpAny_Constant_str ?_)))
  refine wpAny_Call_NameR (name_B (s := { s' with toks := s'.toks + 1 }) F X TT hstr boot_str (by decide) ?_ hk hks (by decide))
  have hp : ∀ x ∈ [Expr.Name nF p3], notStar x = true := fun x hx => by rw [List.mem_singleton.mp hx]; rfl
  refine PySem.callWith_type (plain_args hp) (evalArgs_of (by simp) hp ?_)
  rw [starEach_not rfl]
  refine Calls.spliced_cons (wpAny_Name (wpAny_loadName_local (v := .ref e) hk hn F.ns (by simp) (Calls.spliced_nil ?_)) hdn)
  obtain ⟨oe, ot, ws, nt, h1, h2, hc, hd, h0, htc, htd⟩ := G
  obtain ⟨nm', q', N', bs, bm, hdct, sn, sub, ab, col, dd, k0, k1, k2, k3, k5, newId, hC, hbase, hbT⟩ := kts_cls X hcls
  obtain ⟨h, gg, d, tk, os⟩ := s'
  refine bstr_str hu (X.keeps F.keep) hf (F.keep _ _ hC) hbase (N.get h1) hc hd h0 ⟨ot, nt, N.get h2, htc, htd⟩ ?_
  refine PyProof.Rows.add_str (fun t' tk' => ?_) (by rw [sizeLine_eq]; (first | lia | omega))
  refine wpAny_nameGoes (s := ⟨h, gg, d, _, os⟩) hn F.ns (by rw [show (envOf nm sc L a cd).scope.kind = _ from hk]; rfl) fun h3 m3 hn3 sb => ?_
  refine hQ h3 _ _ ⟨fun b o eb mb => ?_, fun b o eb mb => ?_⟩
  · refine sb.extBut b o ?_ (F.keep _ _ (T.other b o eb mb))
    intro e'
    have := T.other b o eb mb
    rw [show b = L from e', kts_self F] at this; cases this
  · obtain ⟨sl, hs⟩ := T.frame b o eb mb
    refine ⟨sl, sb.extBut b _ ?_ (F.keep _ _ hs)⟩
    intro e'
    rw [show b = L from e', kts_self F] at hs; cases hs
end
end Mine
namespace Mine

section
variable {Y : Sys} {n : Nat} {kd : Kd} {σ σ₁ σ₂ : St} {f : Flw} {rest body orelse : List Stmt} {A : Around} {s₀ s : Shared} {W Wf : List Addr} {Pk : List (Addr × Obj)} {env : Env} {m cm : Str → Option Value} {st : Stmt} {q : Pos} {C : Addr} {v : V}

/-- try: return e (which raises not) -/
theorem Ex.try_ret {h₀ : ExceptHandler} {hs : List ExceptHandler} (h : Run Y kd body σ (.ret v) σ₂) : Ex Y kd (.Try body (h₀ :: hs) [] [] q) σ (.ret v) σ₂ := by
  intro A s₀ s W Pk env hr F R
  refine wpAny_Try_except (wpAny_mono (h A s₀ s W Pk env hr F R) (fun fl s' q => ?_) fun _ _ e => e.elim)
  obtain ⟨val, h', tk', rfl, q⟩ := q
  exact ⟨val, h', tk', rfl, q⟩

/-- where the handlers of a try lead an own exception -/
inductive HandTo (Y : Sys) (kd : Kd) (C : Addr) : List ExceptHandler → Str → Str → Prop where
  | hit {x nF : Str} {Ct : Addr} {np p1 p2 p3 p4 p5 p6 pos : Pos} {pre : Str} {rest : List ExceptHandler} : nsIn Y.K mainGlobals x = some (some (.ref Ct)) → exmOne Y.K (.ref C) (.ref Ct) = some true → kd.lookup x = some .globalImplicit → kd.lookup nF = some .local →
      HandTo Y kd C (.ExceptHandler (some (.Name x np)) (some nF) [.Return (some (.BinOp (.Constant (.str pre) 0 p1) .Add (.Call (.Name "str" p2) [.Name nF p3] [] p4) p5)) p6] pos :: rest) pre nF
  | pass {x : Str} {nm : Option Str} {b : List Stmt} {Ct : Addr} {np pos : Pos} {pre nF : Str} {rest : List ExceptHandler} : nsIn Y.K mainGlobals x = some (some (.ref Ct)) → exmOne Y.K (.ref C) (.ref Ct) = some false → kd.lookup x = some .globalImplicit → HandTo Y kd C rest pre nF →
      HandTo Y kd C (.ExceptHandler (some (.Name x np)) nm b pos :: rest) pre nF

theorem kd_dbg (hdbg : kd.lookup ("__debug__" : Str) = none) {x : Str} {k : NameKind} (h : kd.lookup x = some k) : (x == ("__debug__" : Str)) = false := by
  cases hx : x == ("__debug__" : Str) with
  | false => rfl
  | true => have := beq_iff_eq.mp hx; subst this; rw [hdbg] at h; cases h

theorem handled {C : Addr} {hs : List ExceptHandler} {pre nF : Str} (H : HandTo Y kd C hs pre nF) {base g G : Heap} {outer : List Env} {L a e t : Addr} {cd : Value} {nm : Str} {sc : Scope} {s' : Shared} {msg : Str} {tk0 : Tok} {mean : ExcName → Option Value}
    (hkd : sc.names = kd) (hdbg : kd.lookup ("__debug__" : Str) = none) (hk : sc.kind = .function) (hks : kd.lookup ("str" : Str) = some .globalImplicit) (hstr : nsIn Y.K mainGlobals "str" = some none) (hf : findIn Y.K (.ref C) "__str__" = some (some (.builtin "BaseException.__str__"))) (hcls : ktsIn Y.K C "BaseException" = true)
    (hle : pre.length + msg.length ≤ 2 ^ 20) (hu : A.units + 100 < cLine)
    (R : RaisedS base G (envOf nm sc L a cd :: outer) e (.ref C) t [.str msg tk0] [] s'.heap) (F : Fr g L G m) (B : Below A base outer g) (U : G.UpToSlots s'.heap) (XB : Y.K.In base) (TB : Top Y.p Y.loose mean Y.mg Y.mb base) (D : KtsDicts (outer.filterMap (·.frame)) g)
    {Q : Flow → Shared → Prop} {E : Value → Shared → Prop} (hQ : ∀ h' tk tk', KeepsW (outer.filterMap (·.frame)) g h' → Q (.ret (.str (pre ++ msg) tk)) { s' with heap := h', toks := tk' }) :
    wpAny Y.M (A.deeper (envOf nm sc L a cd)) (handleBy (.ref e) (envOf nm sc L a cd) hs) Q E s' := by
  have kof : ∀ {x : Str} {k : NameKind}, kd.lookup x = some k → (envOf nm sc L a cd).kindOf x = some k := fun h => by unfold Env.kindOf; rw [show (envOf nm sc L a cd).scope.names = kd from hkd]; exact h
  induction H generalizing s' with
  | hit hx he hkx hkn =>
    refine hit_SB (n := _) (g₀ := g) R F B U XB TB D KtsTurn.refl (test_name (.inl hx) he hk (kof hkx) (kd_dbg hdbg hkx)) (fun h' g' news₂ tk T' F' N' G' _ B' X' P' D' => ?_) hk (kof hkn)
    exact wpAny_mono (suite_ret (s' := { s' with heap := h', toks := tk }) T' F' N' G' X' (topRead_of P') (by show A.units + 3 + 2 < _; (first | lia | omega)) hstr hf hcls hk (kof hkn) (kof hks) (kd_dbg hdbg hkn) hle fun h2 tk2 tk3 kw => hQ h2 tk2 tk3 kw) (fun _ _ q => q) fun _ _ f => f.elim
  | pass hx he hkx hr ih =>
    exact pass_S R F B U XB TB D (test_name (.inl hx) he hk (kof hkx) (kd_dbg hdbg hkx)) fun h' R' U' => ih (s' := { s' with heap := h' }) hle R' U' fun h2 tk2 tk3 kw => hQ h2 tk2 tk3 kw

theorem below_keeps {A : Around} {base h h' : Heap} {outer : List Env} (B : Below A base outer h) (k : KeepsH h h') : Below A base outer h' := ⟨B.stack, fun b o e => k b o (B.stays b o e), B.frames.of_keeps fun b o e _ => ⟨o, k b o e, rfl⟩⟩

/-- a raising expression in a frame -/
noncomputable def EvX (Y : Sys) (kd : Kd) (σ : St) (ex : Expr) (C : Addr) (v : V) : Prop :=
  ∀ A s W env base outer, Room Y.lvl A → Cx Y.K Y.p Y.loose Y.mg Y.mb W env kd σ.vars s.heap → Below A base outer s.heap → ∀ (Q E : Value → Shared → Prop),
    (∀ ea t G h' tk val, RaisedS base G outer ea (.ref C) t [val] [] h' → G.UpToSlots h' → KeepsH s.heap G → (∃ h₁, VRep W h₁ v val) → E (.ref ea) { s with heap := h', toks := tk }) → wpAny Y.M A (eval ex env) Q E s

theorem EvX.call (ok : Y.Ok) {fn : Str} {a : Addr} {es : List Expr} {vs : List V} {fp pos : Pos} (hg : isGlob kd σ.vars fn = true) (hne : es ≠ []) (ef : Y.C.fn fn = some a) (e1 : evArgs (Mine.ev Y.C n) kd σ.vars es = some vs) (hc : CallX Y a vs C v) :
    EvX Y kd σ (.Call (.Name fn fp) es [] pos) C v := by
  intro A s W env base outer hr c B Q E hE
  obtain ⟨hn, hk⟩ := ok.fn fn a ef
  have hp := evArgs_notStar e1
  refine wpAny_Call_NameR (name_global hg c hn ?_)
  refine callWith_of (P := fun h => Y.K.In h) (by rw [plain_args hp]; rfl) (fun h X => keeps_K hk h X) (evalArgs_of hne hp ((evArgs_sound (ev_sound ok n) hr e1 c).bindQ fun xs h' tk' k r => ⟨(c.keeps k).gf.1, ?_⟩))
  refine hc A { s with heap := h', toks := tk' } W xs base outer hr (c.keeps k).gf (c.keeps k).hW r (below_keeps B k) _ _ fun ea t h2 tk2 val R U hv => ?_
  exact hE ea t h' h2 tk2 val R U k hv
theorem EvX.ifexp (ok : Y.Ok) {c x y : Expr} {b : Bool} {pos : Pos} (hc : ev Y.C n true kd σ.vars c = some (.bool b)) (h : EvX Y kd σ (if b = true then x else y) C v) : EvX Y kd σ (.IfExp c x y pos) C v := by
  intro A s W env base outer hr cx B Q E hE
  obtain ⟨b', hb, g⟩ := ((ev_sound ok n) kd σ.vars c (.bool b)).2 hc
  cases hb
  refine wpAny_IfExp ((g A s W env hr cx).bindQ fun h1 tk1 k1 => ?_)
  have := h A { s with heap := h1, toks := tk1 } W env base outer hr (cx.keeps k1) (below_keeps B k1) Q E fun ea t G h' tk val R U k hv => hE ea t G h' tk val R U (fun b o e => k b o (k1 b o e)) hv
  cases b
  · simpa using this
  · simpa using this

/-- a call whose body is one try, which raises and is caught -/
theorem call_caught {a : Addr} {ps : List Str} {args : List V} {vals : List Value} {base : Heap} {outer : List Env} {ex : Expr} {rq tq : Pos} {h₀ : ExceptHandler} {hs : List ExceptHandler} {pre nF msg : Str} {mean : ExcName → Option Value}
    (D : DefAt Y a ps kd [.Try [.Return (some ex) rq] (h₀ :: hs) [] [] tq]) (hnc : ∀ y ∈ kd, y.2 ≠ .cell) (hlen : args.length = ps.length) (hx : EvX Y kd ⟨ps.zip args, none⟩ ex C (.str msg)) (H : HandTo Y kd C (h₀ :: hs) pre nF)
    (hks : kd.lookup ("str" : Str) = some .globalImplicit) (hstr : nsIn Y.K mainGlobals "str" = some none) (hf : findIn Y.K (.ref C) "__str__" = some (some (.builtin "BaseException.__str__"))) (hcls : ktsIn Y.K C "BaseException" = true) (hle : pre.length + msg.length ≤ 2 ^ 20)
    (hr : Room (Y.lvl + 1) A) (g : GF Y.K Y.p Y.loose Y.mg Y.mb s.heap) (hW : ∀ a ∈ W, ∃ o, s.heap.get? a = some o) (r : VReps W s.heap args vals) (B : Below A base outer s.heap) (XB : Y.K.In base) (TB : Top Y.p Y.loose mean Y.mg Y.mb base) (DD : KtsDicts (outer.filterMap (·.frame)) s.heap)
    {Q E : Value → Shared → Prop} (hQ : ∀ h' tk tk', KeepsW (outer.filterMap (·.frame)) s.heap h' → Q (.str (pre ++ msg) tk) { s with heap := h', toks := tk' }) : wpAny Y.M A (call (.ref a) vals) Q E s := by
  refine call_enter D hlen hr g hW r fun A' env s₁ hr' hA F R => ?_
  obtain ⟨rfl, fd, rfl, hkd, hgl, hbl⟩ := hA
  rw [callEnv_envOf (by rw [hkd]; exact hnc) hgl hbl] at hr' F R ⊢
  obtain ⟨Wf, m, cm, S, P⟩ := R
  obtain ⟨hs1, tk1, hsame⟩ := S.ic.toInCall.same
  have FF : Fr s.heap s.heap.objs.size s₁.heap m := fr_of S.ic
  refine wpAny_execs_cons (wpAny_mono (Q := fun f s' => ∃ val, f = .ret val ∧ Q val s') (E := fun _ _ => False) ?_ (fun fl s' q => by obtain ⟨val, rfl, hq⟩ := q; exact hq) fun _ _ f => f.elim)
  refine wpAny_Try_except (wpAny_execs_cons (wpAny_mono (Q := fun _ _ => False) (wpAny_Return_some ?_) (fun _ _ f => f.elim) fun _ _ e => e))
  have BB := Below.push (name := fd.qualname) (scope := fd.scope) (a := a) (cd := fd.code) B FF F.fn
  refine hx _ s₁ _ _ base _ hr' (S.cx F) BB _ _ fun ea t G h' tk val RS U k hv => ?_
  obtain ⟨h₁, hv⟩ := hv
  obtain ⟨_, tkv, rfl⟩ := hv.toStr
  have FG : Fr s.heap s.heap.objs.size G m := ⟨FF.ns.keeps k, fun b o e => k b o (FF.keep b o e), FF.above⟩
  refine kts_lookS (s' := { s₁ with heap := h', toks := tk }) RS FG B U DD fun h2 R2 U2 => ?_
  refine handled (s' := { s₁ with heap := h2, toks := tk }) H hkd D.dbg F.fn hks hstr hf hcls hle (by have := hr.units; (first | lia | omega)) R2 FG B U2 XB TB DD fun h3 tk3 tk4 kw => ⟨_, rfl, ?_⟩
  rw [hsame]
  exact hQ h3 tk3 tk4 kw
end
end Mine
namespace Mine

section
variable {prog : Program} {w : World} {A : Around} {s : Shared}
theorem comp_coreW {fs : List Addr} {W : List Addr} {env : Env} {kd : List (Str × NameKind)} {vars : Vars} {elt iter : Expr} {x : Str} {px : Pos} {scope : Scope} {pos : Pos} (xs : List V) (val : V → V)
    (R : ERep W s.heap env kd vars) (hW : ∀ a ∈ W, ∃ o, s.heap.get? a = some o) (hkind : scope.kind = .function)
    (hnames : ∀ y ∈ scope.names, y.2 = .local → scope.names.lookup y.1 = some .local)
    (hx : scope.names.lookup x = some .local ∨ (scope.names.lookup x = some .cell ∧ (x, NameKind.cell) ∈ scope.names))
    (hfree : ∀ n, (n, NameKind.free) ∈ scope.names → kd.lookup n = some .cell ∧ (vars.lookup n).isSome = true)
    (hset : ∀ v, foldedSetIterable iter env v = pure v) (src : Src prog w A W s (eval iter env) xs)
    (hfs : KtsDicts fs s.heap)
    (turnE : ∀ (i : Nat) xi, xs[i]? = some xi → ∀ (W' : List Addr) (s₃ : Shared) (cenv : Env), KeepsW fs s.heap s₃.heap → (∀ a ∈ W', ∃ o, s₃.heap.get? a = some o) → ERep W' s₃.heap cenv (relK scope.names kd) (compVars scope kd vars x xi) →
      GvW fs prog w A W' s₃ (eval elt cenv) (val xi))
    (hlen : xs.length ≤ 2 ^ 20) {use : Option (Value → Sem Unit)} {Q : Value → Shared → Prop} {E : Value → Shared → Prop}
    (fin : ∀ (C D : Nat) (h4 : Heap) (tk4 : Nat) (m₀ : Str → Option Value), KeepsW fs s.heap h4 → h4.Ns C m₀ → s.heap.get? C = none → s.heap.get? D = none → VRep W h4 (.list (xs.map val)) (.ref D) →
      compPost (model prog w) A E use Q (.ref D) C (.ok .next) { s with heap := h4, toks := tk4 }) :
    wpAny (model prog w) A (comprehension (.ListComp elt [⟨.Name x px, iter, [], 0⟩] scope pos) scope env (firstIterPos [⟨.Name x px, iter, [], 0⟩] pos) (newList []) false (eval iter env) use) Q E s := by
  exact comp_coreT (fs := fs) xs (fun _ => true) val R hW hkind hnames hx hfree hset src hfs (fun _ _ _ _ s₃ _ _ _ _ => wpAny_tests_nil ⟨rfl, s₃.heap, s₃.toks, rfl, fun _ _ e => e⟩) (fun i xi h _ => turnE i xi h) hlen fun C D h4 tk4 m₀ k a b c r => fin C D h4 tk4 m₀ k a b c (by rwa [show xs.filter (fun _ => true) = xs from List.filter_eq_self.mpr fun _ _ => rfl] at r)
end
end Mine
namespace Mine

noncomputable def CallW (Y : Sys) (A : Around) (base : Heap) (outer : List Env) (a : Addr) (args : List V) (v : V) : Prop :=
  ∀ s W vals, GF Y.K Y.p Y.loose Y.mg Y.mb s.heap → (∀ a ∈ W, ∃ o, s.heap.get? a = some o) → VReps W s.heap args vals → Below A base outer s.heap → KtsDicts (outer.filterMap (·.frame)) s.heap →
    GvW (outer.filterMap (·.frame)) Y.prog Y.w A W s (call (.ref a) vals) v

section
variable {Y : Sys} {n : Nat} {kd : Kd} {σ σ₁ σ₂ : St} {f : Flw} {rest body orelse : List Stmt} {A : Around} {s₀ s : Shared} {W Wf : List Addr} {Pk : List (Addr × Obj)} {env : Env} {m cm : Str → Option Value} {st : Stmt} {q : Pos} {C : Addr} {v : V}

theorem CallW.of_ok {base : Heap} {outer : List Env} {a : Addr} {args : List V} (hr : Room Y.lvl A) (c : CallOk Y.prog Y.w Y.K Y.p Y.loose Y.mg Y.mb Y.lvl a args v) : CallW Y A base outer a args v :=
  fun s W vals g hW r _ _ => wpAny_mono (c A s W vals hr g hW r) (fun _ _ ⟨h', tk', e, k, rv⟩ => ⟨h', tk', e, .of k, rv⟩) fun _ _ e => e

theorem KeepsW.up {fs : List Addr} {h h' : Heap} (k : KeepsW fs h h') : h.UpToSlots h' := fun b o e _ => by
  by_cases m : b ∈ fs
  · exact k.frame b o e m
  · exact ⟨o.slots, k.other b o e m⟩

theorem SAt.dicts (S : SAt s₀ W Wf env m cm σ s) : KtsDicts [env.locals] s.heap := fun b hb => by
  rw [List.mem_singleton.mp hb]
  obtain ⟨o, es, ep, e1, e2, _⟩ := S.ic.toInCall.ns
  exact ⟨o, es, ep, e1, e2⟩
theorem SAt.fresh0 (S : SAt s₀ W Wf env m cm σ s) : s₀.heap.get? env.locals = none := by
  cases e : s₀.heap.get? env.locals with
  | none => rfl
  | some o => exact absurd (Nat.lt_of_lt_of_le (Heap.lt_size e) S.ic.toInCall.fresh) (Nat.lt_irrefl _)
theorem SAt.keepsW {h' : Heap} {tk : Nat} (S : SAt s₀ W Wf env m cm σ s) (k : KeepsW [env.locals] s.heap h') : SAt s₀ W Wf env m cm σ { s with heap := h', toks := tk } := by
  have D := S.dicts
  obtain ⟨h₁, tk₁, hsame⟩ := S.ic.toInCall.same
  have f0 := S.fresh0
  refine ⟨⟨⟨⟨h', tk, by rw [hsame]⟩, k.up.ns S.ic.toInCall.ns, fun b o e => k.other b o (S.ic.toInCall.keep b o e) (fun hm => by rw [List.mem_singleton.mp hm, f0] at e; cases e), S.ic.toInCall.fresh⟩,
    fun n c hc => (let ⟨o, e1, e2⟩ := S.ic.cell n c hc; ⟨o, k.cell D e1 e2, e2⟩), S.ic.apart, S.ic.above⟩, fun x v e => (let ⟨val, a, b⟩ := S.vars x v e; ⟨val, a, b.mono (fun _ m => .inl m) fun b o _ e hq => k.seq D e hq⟩), ?_⟩
  have ho := S.own
  split
  · rename_i e; rw [e] at ho; exact ho
  · rename_i y xs e
    rw [e] at ho
    obtain ⟨a, items, e1, e2, ⟨n, e3⟩, e4, e5, e6⟩ := ho
    exact ⟨a, items, e1, e2, ⟨n, k.seq D e3 ⟨_, _, rfl⟩⟩, e4.mono (fun _ m => .inl m) fun b o _ e hq => k.seq D e hq, e5, e6⟩
theorem PkOk.keepsW {Wf : List Addr} {h h' : Heap} (k : KeepsW [env.locals] h h') (P : PkOk Pk env Wf h) : PkOk Pk env Wf h' := fun q hq => by
  obtain ⟨a1, a2, a3, a4⟩ := P q hq
  exact ⟨k.other _ _ a1 (by simpa using a2), a2, a3, a4⟩

theorem SAt.below (S : SAt s₀ W Wf env m cm σ s) (hA : A.frames = some [env]) (hf : env.frame = some env.locals) (hk : env.scope.kind = .function) : Below A s₀.heap [env] s.heap := by
  obtain ⟨o, es, ep, e1, e2, _⟩ := S.ic.toInCall.ns
  refine ⟨hA, S.ic.toInCall.keep, ?_⟩
  refine ⟨by rw [hk]; decide, ⟨env.locals, o, hf, S.fresh0, e1, fun vs h => by rw [e2] at h; cases h⟩, trivial⟩
theorem Below.keepsW {base h h' : Heap} (B : Below A base [env] h) (hf : env.frame = some env.locals) (k : KeepsW [env.locals] h h') : Below A base [env] h' := by
  obtain ⟨b1, b2, b3, ⟨L, o, e1, e2, e3, e4⟩, b5⟩ := B
  rw [hf] at e1; cases e1
  obtain ⟨sl, hs⟩ := k.frame _ _ e3 (List.mem_singleton.mpr rfl)
  exact ⟨b1, fun b o e => k.other b o (b2 b o e) (fun hm => by rw [List.mem_singleton.mp hm, e2] at e; cases e), b3, ⟨_, _, hf, e2, hs, e4⟩, b5⟩

/-- if [f(..) for x in ..] != due: .., where f may raise and catch -/
theorem if_weak (ok : Y.Ok) (hr : Room Y.lvl A) (F : Y.Fr s₀ W env kd) (R : SRep s₀ W Pk env σ s) (hA : A.frames = some [env]) (hf : env.frame = some env.locals) {fn x due : Str} {a : Addr} {es : List Expr} {fp pos px lpos dp cpos : Pos} {iter : Expr} {sc : Scope} {xs : List V} {val : V → V}
    (hsc : scopeOk sc kd σ.vars = true) (hvar : varOk sc x = true) (hset : notSet iter = true) (e1 : evIter (Mine.ev Y.C n) kd σ.vars iter = some xs) (hlen : xs.length ≤ 2 ^ 20) (ef : Y.C.fn fn = some a) (hne : es ≠ [])
    (hturn : ∀ xi ∈ xs, isGlob (relK sc.names kd) (compVars sc kd σ.vars x xi) fn = true ∧ ∃ vs, evArgs (Mine.ev Y.C n) (relK sc.names kd) (compVars sc kd σ.vars x xi) es = some vs ∧ CallW Y A s₀.heap [env] a vs (val xi))
    (hdue : σ.vars.lookup due = some (.list (xs.map val))) (heq : eqOk 5 (.list (xs.map val)) = true) :
    wpAny Y.M A (exec (.If (.Compare (.ListComp (.Call (.Name fn fp) es [] pos) [⟨.Name x px, iter, [], 0⟩] sc lpos) [.NotEq] [.Name due dp] cpos) body [] q) env) (FRes s₀ W Pk env .next σ) (fun _ _ => False) s := by
  obtain ⟨Wf, m, cm, S, P⟩ := R
  have c := S.cx F
  have D := S.dicts
  have hfs : [env].filterMap (·.frame) = [env.locals] := by simp [hf]
  unfold scopeOk at hsc
  simp only [Bool.and_eq_true, beq_iff_eq, List.all_eq_true, Bool.or_eq_true, bne_iff_ne, ne_eq, Option.isNone_iff_eq_none] at hsc
  obtain ⟨⟨⟨hk, hnm⟩, hfr⟩, hdb⟩ := hsc
  have hdbg : (relK sc.names kd).lookup ("__debug__" : Str) = none := by rw [lookup_relK, hdb]; rfl
  obtain ⟨hn, hkeep⟩ := ok.fn fn a ef
  have B := S.below hA hf F.fn
  have f0 := S.fresh0
  have left : GvW [env.locals] Y.prog Y.w A (Wf ++ W) s (eval (.ListComp (.Call (.Name fn fp) es [] pos) [⟨.Name x px, iter, [], 0⟩] sc lpos) env) (.list (xs.map val)) := by
    unfold GvW
    rw [eval_ListComp]
    refine comp_coreW (fs := [env.locals]) xs val c.er c.hW hk (fun y hy hl => ?_) ?_ (fun n hn => ?_) (set_not hset) (evIter_sound ok (ev_sound ok n) hr e1 c) D ?_ hlen (use := none) fun CC DD h4 tk4 m₀ k hns hC hD r => ?_
    · rcases hnm y hy with h | h
      · exact absurd hl h
      · exact h
    · unfold varOk at hvar
      simp only [Bool.or_eq_true, beq_iff_eq, Bool.and_eq_true, List.contains_eq_mem, decide_eq_true_eq] at hvar
      exact hvar
    · rcases hfr (n, .free) hn with h | h
      · exact absurd rfl h
      · exact h
    · intro i xi hxi W' s₃ cenv k hW er
      obtain ⟨hg, vs, e2, hc⟩ := hturn xi (List.mem_of_getElem? hxi)
      have k0 : KeepsH s₀.heap s₃.heap := fun b o e => k.other b o (S.ic.toInCall.keep b o e) fun hm => by rw [List.mem_singleton.mp hm, f0] at e; cases e
      have c3 : Cx Y.K Y.p Y.loose Y.mg Y.mb W' cenv (relK sc.names kd) (compVars sc kd σ.vars x xi) s₃.heap := ⟨F.gf.keeps k0, er, hW, hdbg⟩
      have hp := evArgs_notStar e2
      refine wpAny_Call_NameR (name_global hg c3 hn ?_)
      refine callWith_of (P := fun h => Y.K.In h) (by rw [plain_args hp]; rfl) (fun h X => keeps_K hkeep h X) (evalArgs_of hne hp ((evArgs_sound (ev_sound ok n) hr e2 c3).bindQ fun ys h' tk' k' r => ⟨(c3.keeps k').gf.1, ?_⟩))
      have kk : KeepsW [env.locals] s.heap h' := k.trans (.of k')
      have := hc { s₃ with heap := h', toks := tk' } W' ys (c3.keeps k').gf (c3.keeps k').hW r (Below.keepsW B hf kk) (by rw [hfs]; exact kk.dicts D)
      rw [hfs] at this
      exact wpAny_mono this (fun xv s' ⟨h2, tk2, e, k2, rv⟩ => ⟨h2, tk2, e, KeepsW.trans (.of k') k2, rv⟩) fun _ _ e => e
    · have kC : ∀ h5, Heap.SameBut CC h4 h5 → KeepsW [env.locals] s.heap h5 := fun h5 hs5 => ⟨fun b o e hb => hs5.extBut b o (fun q => by subst q; rw [hC] at e; cases e) (k.other b o e hb), fun b o e hb => by
        obtain ⟨sl, hs⟩ := k.frame b o e hb
        exact ⟨sl, hs5.extBut b _ (fun q => by subst q; rw [hC] at e; cases e) hs⟩⟩
      exact ⟨m₀, hns, fun h5 hs5 => ⟨h5, tk4, rfl, kC h5 hs5, r.but hns hs5⟩⟩
  refine wpAny_If (wpAny_isTrue_Compare1 (wpAny_mono left (fun xv s1 ⟨h1, tk1, es1, k1, r1⟩ => ?_) fun _ _ f => f.elim))
  subst es1
  have S1 := S.keepsW (tk := tk1) k1
  obtain ⟨dv, ds, rd⟩ := S1.vars due _ hdue
  refine slot_eval F S1 ds ?_
  have hcmp : cmpV .NotEq (.list (xs.map val)) (.list (xs.map val)) = some (.bool false) := by simp [cmpV, eqN, eqV, heq]
  refine (cmpV_sound (by have := hr.units; (first | lia | omega)) hcmp r1 rd).bindQ fun bv h2 tk2 k2 rb => ?_
  have := rb.toBool; subst this
  refine wpAny_truthy_bool ?_
  simp only [Bool.false_eq_true, if_false]
  exact wpAny_execs_nil ⟨rfl, Wf, m, cm, S1.keeps k2, (P.keepsW k1).keeps k2⟩
end
end Mine
namespace Mine

section
variable {C : Cfg} {n : Nat} {kd : Kd} {vars : Vars} {p q : Pos} {k : Nat}

theorem r_int {i : Int} : ev C (n + 1) false kd vars (.Constant (.int i) k p) = some (.int i) := rfl
theorem r_none : ev C (n + 1) false kd vars (.Constant .none k p) = some .none := rfl
theorem r_bool {b : Bool} : ev C (n + 1) false kd vars (.Constant (.bool b) k p) = some (.bool b) := rfl
theorem r_str {x : Str} (h : x.length ≤ 2 ^ 20) : ev C (n + 1) false kd vars (.Constant (.str x) k p) = some (.str x) := by
  show (if x.length ≤ 2 ^ 20 then some (V.str x) else none) = _
  rw [if_pos h]
theorem r_name {x : Str} {v : V} (h : vars.lookup x = some v) : ev C (n + 1) false kd vars (.Name x p) = some v := by
  show (match vars.lookup x with | some v => some v | none => if kd.lookup x == some NameKind.globalImplicit then (C.gconst x).map V.int else none) = _
  rw [h]
theorem r_glob {x : Str} {i : Int} (h : isGlob kd vars x = true) (hc : C.gconst x = some i) : ev C (n + 1) false kd vars (.Name x p) = some (.int i) := by
  show (match vars.lookup x with | some v => some v | none => if kd.lookup x == some NameKind.globalImplicit then (C.gconst x).map V.int else none) = _
  unfold isGlob at h
  simp only [Bool.and_eq_true, Option.isNone_iff_eq_none] at h
  rw [h.1]
  dsimp only
  rw [if_pos h.2, hc]; rfl
theorem r_bin {l r : Expr} {op : Operator} {a b v : V} (hl : ev C n false kd vars l = some a) (hr : ev C n false kd vars r = some b) (hb : binV op a b = some v) : ev C (n + 1) false kd vars (.BinOp l op r p) = some v := by
  show (ev C n false kd vars l).bind _ = _
  rw [hl]; show (ev C n false kd vars r).bind _ = _
  rw [hr]; exact hb
theorem r_un {x : Expr} {op : UnaryOp} {a v : V} (hx : ev C n false kd vars x = some a) (hb : unV op a = some v) : ev C (n + 1) false kd vars (.UnaryOp op x p) = some v := by
  show (ev C n false kd vars x).bind _ = _
  rw [hx]; exact hb
theorem r_if {t b o : Expr} {c : Bool} {v : V} (ht : ev C n true kd vars t = some (.bool c)) (h : ev C n false kd vars (if c = true then b else o) = some v) : ev C (n + 1) false kd vars (.IfExp t b o p) = some v := by
  show (ev C n true kd vars t).bind _ = _
  rw [ht]
  cases c
  · simpa using h
  · simpa using h
theorem r_or {a b : Expr} {va v : V} {t : Bool} (ha : ev C n false kd vars a = some va) (ht : truthV va = some t) (h : (if t = true then some va else ev C n false kd vars b) = some v) : ev C (n + 1) false kd vars (.BoolOp .Or [a, b] p) = some v := by
  show (ev C n false kd vars a).bind _ = _
  rw [ha]; show (truthV va).bind _ = _
  rw [ht]; exact h
theorem a_nil {ih : EvTy} : evArgs ih kd vars [] = some [] := rfl
theorem a_cons {ih : EvTy} {e : Expr} {r : List Expr} {v : V} {vs : List V} (h : ih false kd vars e = some v) (hr : evArgs ih kd vars r = some vs) (hs : notStar e = true) : evArgs ih kd vars (e :: r) = some (v :: vs) := by
  unfold evArgs
  rw [if_pos hs, h]; show (evArgs ih kd vars r).bind _ = _
  rw [hr]; rfl
theorem r_list {es : List Expr} {vs : List V} (h : evArgs (ev C n) kd vars es = some vs) (hl : es.length ≤ 2 ^ 20) : ev C (n + 1) false kd vars (.List es p) = some (.list vs) := by
  show (if es.length ≤ 2 ^ 20 then (evArgs (ev C n) kd vars es).map V.list else none) = _
  rw [if_pos hl, h]; rfl
theorem r_tup {es : List Expr} {vs : List V} (h : evArgs (ev C n) kd vars es = some vs) (hl : es.length ≤ 2 ^ 20) : ev C (n + 1) false kd vars (.Tuple es k p) = some (.tup vs) := by
  show (if es.length ≤ 2 ^ 20 then (evArgs (ev C n) kd vars es).map V.tup else none) = _
  rw [if_pos hl, h]; rfl
theorem r_cmp {l r : Expr} {op : CmpOp} {a b v : V} (hs : notSet r = true) (hd : dictOf? C kd vars r = none) (hl : ev C n false kd vars l = some a) (hr : ev C n false kd vars r = some b) (h : cmpV op a b = some v) : ev C (n + 1) false kd vars (.Compare l [op] [r] p) = some v := by
  show evCmp C (ev C n) kd vars l op r = _
  unfold evCmp
  rw [if_pos hs, hd]
  dsimp only
  rw [hl, hr]; exact h
theorem r_notin {l r : Expr} {x : Str} {es : List (Str × Int)} (hs : notSet r = true) (hd : dictOf? C kd vars r = some es) (hl : ev C n false kd vars l = some (.str x)) : ev C (n + 1) false kd vars (.Compare l [.NotIn] [r] p) = some (.bool (!(es.lookup x).isSome)) := by
  show evCmp C (ev C n) kd vars l .NotIn r = _
  unfold evCmp
  rw [if_pos hs, hd]
  dsimp only
  rw [if_pos (show (CmpOp.NotIn == CmpOp.NotIn) = true from rfl), hl]; rfl
theorem r_disp {ks : List (Option Expr)} {vs : List Expr} {i : Expr} {es : List (Str × Int)} {x : Str} {j : Int} (hd : dispOf ks vs = some es) (hc : es.length ≤ 15 ∧ es ≠ [] ∧ (es.map (·.1)).Nodup) (hi : ev C n false kd vars i = some (.str x)) (hj : es.lookup x = some j) : ev C (n + 1) false kd vars (.Subscript (.Dict ks vs p) i q) = some (.int j) := by
  show evDisp (ev C n) kd vars ks vs i = _
  unfold evDisp
  rw [hd, Option.bind_some, if_pos hc, hi, Option.bind_some]
  dsimp only
  rw [hj]; rfl
theorem r_slice {e : Expr} {lo hi st : Option Expr} {a l h t v : V} {l' h' t' : Option Int} (ha : ev C n false kd vars e = some a) (hl : evPart (ev C n) kd vars lo = some l) (hh : evPart (ev C n) kd vars hi = some h) (ht : evPart (ev C n) kd vars st = some t)
    (el : optI l = some l') (eh : optI h = some h') (et : optI t = some t') (hv : sliceV a l' h' t' = some v) (hd : dispE? e = none) : ev C (n + 1) false kd vars (.Subscript e (.Slice lo hi st p) q) = some v := by
  show evSub (ev C n) kd vars e (.Slice lo hi st p) = _
  unfold evSub
  rw [hd]
  show evSlice (ev C n) kd vars e lo hi st = _
  unfold evSlice
  rw [ha, hl, hh, ht]
  simp only [el, eh, et, Option.bind_some, hv]
theorem r_idx {e i : Expr} {a j v : V} (ha : ev C n false kd vars e = some a) (hi : ev C n false kd vars i = some j) (hv : idxV a j = some v) (hd : dispE? e = none) (hsl : sliceE? i = none) : ev C (n + 1) false kd vars (.Subscript e i q) = some v := by
  show evSub (ev C n) kd vars e i = _
  unfold evSub
  rw [hd, hsl]
  dsimp only
  rw [ha, hi]; exact hv
theorem p_none {ih : EvTy} : evPart ih kd vars none = some .none := rfl
theorem p_some {ih : EvTy} {e : Expr} {v : V} (h : ih false kd vars e = some v) : evPart ih kd vars (some e) = some v := h
theorem r_fn {f : Str} {es : List Expr} {a : Addr} {vs : List V} {v : V} (hg : isGlob kd vars f = true) (hne : es.isEmpty = false) (hf : C.fn f = some a) (ha : evArgs (ev C n) kd vars es = some vs) (hv : C.phi f vs = some v) : ev C (n + 1) false kd vars (.Call (.Name f q) es [] p) = some v := by
  show evCall C (ev C n) kd vars f es = _
  unfold evCall
  rw [if_pos ⟨hg, fun q => by rw [q] at hne; cases hne⟩, hf]
  dsimp only
  rw [ha]; exact hv
theorem r_bi {f : Str} {es : List Expr} {b : Value} {vs : List V} {v : V} (hg : isGlob kd vars f = true) (hne : es.isEmpty = false) (hf : C.fn f = none) (h1 : f ≠ "isinstance") (h2 : f ≠ "list") (hb : builtinOf f = some b) (ha : evArgs (ev C n) kd vars es = some vs) (hv : builtinV f vs = some v) : ev C (n + 1) false kd vars (.Call (.Name f q) es [] p) = some v := by
  show evCall C (ev C n) kd vars f es = _
  unfold evCall
  rw [if_pos ⟨hg, fun q => by rw [q] at hne; cases hne⟩, hf]
  dsimp only
  rw [if_neg h1, if_neg h2, hb]
  dsimp only
  rw [ha]; exact hv
theorem r_isi {e : Expr} {T : Str} {u v : V} {tq : Pos} (hg : isGlob kd vars "isinstance" = true) (hf : C.fn "isinstance" = none) (hT : isGlob kd vars T = true) (hs : notStar e = true) (he : ev C n false kd vars e = some u) (hv : isiV u T = some v) : ev C (n + 1) false kd vars (.Call (.Name "isinstance" q) [e, .Name T tq] [] p) = some v := by
  show evCall C (ev C n) kd vars "isinstance" [e, .Name T tq] = _
  unfold evCall
  rw [if_pos ⟨hg, by simp⟩, hf]
  dsimp only
  rw [if_pos rfl, if_pos ⟨hT, hs⟩, he]; exact hv
theorem r_meth {o : Expr} {m : Str} {es : List Expr} {ap : Pos} {ov v : V} {vs : List V} (hline : (ap.endLine == p.line) = true) (hl : es.length < 20) (hd : dictOf? C kd vars o = none) (hc : notCall o = true) (ho : ev C n false kd vars o = some ov) (ha : evArgs (ev C n) kd vars es = some vs) (hv : methV m ov vs = some v) :
    ev C (n + 1) false kd vars (.Call (.Attribute o m ap) es [] p) = some v := by
  show (if (ap.endLine == p.line) = true ∧ es.length < 20 then evMeth C (ev C n) kd vars o m es else none) = _
  rw [if_pos ⟨hline, hl⟩]
  unfold evMeth
  rw [hd]
  dsimp only
  rw [if_pos hc, ho]
  show (evArgs (ev C n) kd vars es).bind _ = _
  rw [ha]; exact hv
theorem r_get {o kE dE : Expr} {ap : Pos} {es : List (Str × Int)} {x : Str} {dv : V} (hline : (ap.endLine == p.line) = true) (hd : dictOf? C kd vars o = some es) (h1 : notStar kE = true) (h2 : notStar dE = true) (hk : ev C n false kd vars kE = some (.str x)) (hdv : ev C n false kd vars dE = some dv) :
    ev C (n + 1) false kd vars (.Call (.Attribute o "get" ap) [kE, dE] [] p) = some (match es.lookup x with | some i => .int i | none => dv) := by
  show (if (ap.endLine == p.line) = true ∧ [kE, dE].length < 20 then evMeth C (ev C n) kd vars o "get" [kE, dE] else none) = _
  rw [if_pos ⟨hline, by simp⟩]
  unfold evMeth
  rw [hd]
  dsimp only
  rw [if_pos rfl, if_pos ⟨h1, h2⟩, hk]
  show (ev C n false kd vars dE).bind _ = _
  rw [hdv]; rfl
theorem i_range {es : List Expr} {vs xs : List V} (hg : isGlob kd vars "range" = true) (hl : es.length ≤ 3) (ha : evArgs (ev C n) kd vars es = some vs) (hr : rangeV vs = some xs) : evIter (ev C n) kd vars (.Call (.Name "range" q) es [] p) = some xs := by
  unfold evIter
  dsimp only
  rw [if_pos ⟨hg, rfl⟩, if_pos hl, ha]; exact hr
noncomputable def notRange : Expr → Bool
  | .Call (.Name _ _) _ [] _ => false
  | _ => true
theorem i_val {e : Expr} {v : V} {xs : List V} (hn : notRange e = true) (h : ev C n false kd vars e = some v) (hx : itemsV v = some xs) : evIter (ev C n) kd vars e = some xs := by
  unfold evIter
  split
  · cases hn
  · rw [h]; exact hx
theorem r_comp0 {elt : Expr} {x : Str} {iter : Expr} {sc : Scope} {xs ys : List V} {px : Pos} (hc : scopeOk sc kd vars = true ∧ varOk sc x = true ∧ notSet iter = true) (hi : evIter (ev C n) kd vars iter = some xs) (hl : xs.length ≤ 2 ^ 20)
    (h : compV (fun xi => (ev C n false (relK sc.names kd) (compVars sc kd vars x xi) elt).map some) xs = some ys) : ev C (n + 1) false kd vars (.ListComp elt [⟨.Name x px, iter, [], 0⟩] sc p) = some (.list ys) := by
  show evComp (ev C n) kd vars elt x iter [] sc = _
  unfold evComp
  rw [if_pos hc, hi, Option.bind_some, if_pos hl]
  exact congrArg (Option.map V.list) h
theorem r_comp1 {elt c : Expr} {x : Str} {iter : Expr} {sc : Scope} {xs ys : List V} {px : Pos} (hc : scopeOk sc kd vars = true ∧ varOk sc x = true ∧ notSet iter = true) (hi : evIter (ev C n) kd vars iter = some xs) (hl : xs.length ≤ 2 ^ 20)
    (h : compV (fun xi => (ev C n true (relK sc.names kd) (compVars sc kd vars x xi) c).bind fun b => match b with
          | .bool true => (ev C n false (relK sc.names kd) (compVars sc kd vars x xi) elt).map some
          | .bool false => some none
          | _ => none) xs = some ys) : ev C (n + 1) false kd vars (.ListComp elt [⟨.Name x px, iter, [c], 0⟩] sc p) = some (.list ys) := by
  show evComp (ev C n) kd vars elt x iter [c] sc = _
  unfold evComp
  rw [if_pos hc, hi, Option.bind_some, if_pos hl]
  refine Eq.trans ?_ (congrArg (Option.map V.list) h)
  rfl
theorem m_some {o : Option V} {v : V} (h : o = some v) : o.map some = some (some v) := by rw [h]; rfl
theorem c_nil {f : V → Option (Option V)} : compV f [] = some [] := rfl
theorem c_cons {f : V → Option (Option V)} {x y : V} {xs ys : List V} (h : f x = some (some y)) (hr : compV f xs = some ys) : compV f (x :: xs) = some (y :: ys) := by
  simp only [compV, h, hr, Option.bind_some]
theorem c_drop {f : V → Option (Option V)} {x : V} {xs ys : List V} (h : f x = some none) (hr : compV f xs = some ys) : compV f (x :: xs) = some ys := by
  simp only [compV, h, hr, Option.bind_some]
theorem c_map {f : V → Option (Option V)} {g : V → V} {xs : List V} (h : ∀ x ∈ xs, f x = some (some (g x))) : compV f xs = some (xs.map g) := by
  induction xs with
  | nil => rfl
  | cons x xs ih => exact c_cons (h x List.mem_cons_self) (ih fun y hy => h y (List.mem_cons_of_mem _ hy))
/-- tests -/
theorem t_not {x : Expr} {b : Bool} (h : ev C n true kd vars x = some (.bool b)) : ev C (n + 1) true kd vars (.UnaryOp .Not x p) = some (.bool (!b)) := by
  show (ev C n true kd vars x).bind _ = _
  rw [h]; rfl
noncomputable def notNeg : Expr → Bool
  | .UnaryOp op _ _ => !(op == .Not)
  | _ => true
noncomputable def plainT (e : Expr) : Bool := notNeg e && (boolE? e).isNone && !isIfE e
theorem t_val {e : Expr} {v : V} {b : Bool} (hp : plainT e = true) (h : ev C (n + 1) false kd vars e = some v) (ht : truthV v = some b) : ev C (n + 1) true kd vars e = some (.bool b) := by
  show tstStep C (ev C n) kd vars e = _
  have h : tstVal C (ev C n) kd vars e = some (.bool b) := by
    have h : evStep C (ev C n) kd vars e = some v := h
    unfold tstVal
    rw [h, Option.bind_some, ht]; rfl
  unfold plainT at hp
  rw [Bool.and_eq_true, Bool.and_eq_true, Option.isNone_iff_eq_none] at hp
  obtain ⟨⟨h1, h2⟩, h3⟩ := hp
  unfold tstStep
  rw [h2]
  dsimp only
  split
  · rename_i u hu
    obtain ⟨q, rfl⟩ := negE?_some hu
    unfold notNeg at h1
    dsimp only at h1
    rw [if_neg fun q => by rw [q] at h1; cases h1]
    exact h
  · rw [if_neg fun q => by rw [q] at h3; cases h3]
    exact h
theorem t_bool {op : BoolOp} {es : List Expr} {v : V} (h : allT (ev C n) kd vars op es = some v) : ev C (n + 1) true kd vars (.BoolOp op es p) = some v := h
theorem b_and_t {ih : EvTy} {x : Expr} {r : List Expr} {v : V} (h : ih true kd vars x = some (.bool true)) (hr : allT ih kd vars .And r = some v) : allT ih kd vars .And (x :: r) = some v := by
  simp only [allT, h, Option.bind_some, hr]
theorem b_and_f {ih : EvTy} {x : Expr} {r : List Expr} (h : ih true kd vars x = some (.bool false)) : allT ih kd vars .And (x :: r) = some (.bool false) := by
  simp only [allT, h, Option.bind_some]
theorem b_or_f {ih : EvTy} {x : Expr} {r : List Expr} {v : V} (h : ih true kd vars x = some (.bool false)) (hr : allT ih kd vars .Or r = some v) : allT ih kd vars .Or (x :: r) = some v := by
  simp only [allT, h, Option.bind_some, hr]
theorem b_or_t {ih : EvTy} {x : Expr} {r : List Expr} (h : ih true kd vars x = some (.bool true)) : allT ih kd vars .Or (x :: r) = some (.bool true) := by
  simp only [allT, h, Option.bind_some]
theorem b_and_nil {ih : EvTy} : allT ih kd vars .And [] = some (.bool true) := rfl
theorem b_or_nil {ih : EvTy} : allT ih kd vars .Or [] = some (.bool false) := rfl
theorem r_pair {y a b : Str} {yp ap bp tp : Pos} {iter : Expr} {sc : Scope} {xs ys : List V} (hc : pairOk sc y a b = true ∧ notSet iter = true) (hi : ev C n false kd vars iter = some (.list xs)) (hl : xs.length ≤ 2 ^ 20) (hp : pairV xs = some ys) :
    ev C (n + 1) false kd vars (.ListComp (.Name y yp) [⟨.Tuple [.Name a ap, .Name b bp] k tp, iter, [], 0⟩] sc p) = some (.list ys) := by
  show evPair (ev C n) kd vars y a b iter sc = _
  unfold evPair
  rw [if_pos hc, hi]
  simp only [Option.bind_some]
  rw [if_pos hl, hp]; rfl
/-! closed operations, by the kernel -/
theorem b_pow {a n r : Int} (h : (decide (0 ≤ n) && decide ((Builtin.Int.intBits a : Int) * n ≤ 2 ^ 27)) = true) (hr : a ^ n.toNat = r) : binV .Pow (.int a) (.int n) = some (.int r) := by
  simp only [Bool.and_eq_true, decide_eq_true_eq] at h
  show (if _ then _ else _) = _
  rw [if_pos h, hr]
theorem b_div {a b r : Int} (h : (decide (b ≠ 0) && decide (b.natAbs < 1073741824)) = true) (hr : a.fdiv b = r) : binV .FloorDiv (.int a) (.int b) = some (.int r) := by
  simp only [Bool.and_eq_true, decide_eq_true_eq] at h
  show (if _ then _ else _) = _
  rw [if_pos h, hr]
theorem b_mod {a b r : Int} (h : decide (b ≠ 0) = true) (hr : a.fmod b = r) : binV .Mod (.int a) (.int b) = some (.int r) := by
  simp only [decide_eq_true_eq] at h
  show (if _ then _ else _) = _
  rw [if_pos h, hr]
theorem b_mul {a b r : Int} (h : IntMulOk a b) (hr : a * b = r) : binV .Mult (.int a) (.int b) = some (.int r) := by
  rw [← hr]
  exact if_pos h
theorem b_shr {a n r : Int} (h : decide (0 ≤ n) = true) (hr : a.fdiv (2 ^ n.toNat) = r) : binV .RShift (.int a) (.int n) = some (.int r) := by
  simp only [decide_eq_true_eq] at h
  show (if _ then _ else _) = _
  rw [if_pos h, hr]
theorem b_cat {x y r : Str} (h : x.length + y.length ≤ 2 ^ 20) (hr : x ++ y = r) : binV .Add (.str x) (.str y) = some (.str r) := by
  show (if _ then _ else _) = _
  rw [if_pos h, hr]
theorem b_join {xs ys : List V} (h : xs.length + ys.length ≤ 2 ^ 20) : binV .Add (.list xs) (.list ys) = some (.list (xs ++ ys)) := by
  show (if _ then _ else _) = _
  rw [if_pos h]
theorem g_range {k : Nat} (h : k ≤ 1000) : rangeV [.int k] = some ((List.range k).map fun (i : Nat) => .int i) := by
  have hn : rangeN 0 k 1 = k := by
    unfold rangeN Builtin.Range.rangeSize
    by_cases h0 : k = 0
    · subst h0; decide
    · have h1 : (0 : Int) < k := by (first | lia | omega)
      have h2 : 0 < k := by (first | lia | omega)
      simp [h1, h2]
  have ok : okR 0 k 1 = true := by
    unfold okR
    rw [hn]
    simp
    (first | lia | omega)
  show (if okR 0 k 1 then some (rangeVs 0 k 1) else none) = _
  rw [if_pos ok]
  unfold rangeVs
  rw [hn]
  simp
end
end Mine
namespace Mine

noncomputable def Flw.stops : Flw → Bool
  | .next => false
  | _ => true

/-! the same in boxes -/
structure Ru (Y : Sys) (kd : Kd) (stmts : List Stmt) (σ : St) (f : Flw) (σ' : St) : Prop where
  out : Run Y kd stmts σ f σ'
structure Xe (Y : Sys) (kd : Kd) (st : Stmt) (σ : St) (f : Flw) (σ' : St) : Prop where
  out : Ex Y kd st σ f σ'
structure Rx (Y : Sys) (kd : Kd) (stmts : List Stmt) (σ : St) (C : Addr) (v : V) : Prop where
  out : RunX Y kd stmts σ C v
structure Vx (Y : Sys) (kd : Kd) (σ : St) (ex : Expr) (C : Addr) (v : V) : Prop where
  out : EvX Y kd σ ex C v
inductive Wh (Y : Sys) (kd : Kd) (c : Expr) (body : List Stmt) : St → Flw → St → Prop where
  | done {n : Nat} {σ : St} : TsTo Y n kd σ c false → Wh Y kd c body σ .next σ
  | turn {n : Nat} {σ σ₁ : St} {f : Flw} {σ₂ : St} : TsTo Y n kd σ c true → Ru Y kd body σ .next σ₁ → Wh Y kd c body σ₁ f σ₂ → Wh Y kd c body σ f σ₂
  | brk {n : Nat} {σ σ₁ : St} : TsTo Y n kd σ c true → Ru Y kd body σ .brk σ₁ → Wh Y kd c body σ .next σ₁
  | ret {n : Nat} {σ : St} {v : V} {σ₁ : St} : TsTo Y n kd σ c true → Ru Y kd body σ (.ret v) σ₁ → Wh Y kd c body σ (.ret v) σ₁
inductive Fo (Y : Sys) (kd : Kd) (x : Str) (body : List Stmt) : List V → St → Flw → St → Prop where
  | done {σ : St} : Fo Y kd x body [] σ .next σ
  | turn {v : V} {vs : List V} {σ σ₁ : St} {f : Flw} {σ₂ : St} : Ru Y kd body (σ.set x v) .next σ₁ → Fo Y kd x body vs σ₁ f σ₂ → Fo Y kd x body (v :: vs) σ f σ₂
  | brk {v : V} {vs : List V} {σ σ₁ : St} : Ru Y kd body (σ.set x v) .brk σ₁ → Fo Y kd x body (v :: vs) σ .next σ₁
  | ret {v : V} {vs : List V} {σ : St} {u : V} {σ₁ : St} : Ru Y kd body (σ.set x v) (.ret u) σ₁ → Fo Y kd x body (v :: vs) σ (.ret u) σ₁

section
variable {Y : Sys} {n : Nat} {kd : Kd} {σ σ₁ σ₂ : St} {f : Flw} {rest body orelse : List Stmt} {st : Stmt} {q : Pos} {C : Addr} {v : V}

theorem Wh.un {c : Expr} (h : Wh Y kd c body σ f σ₂) : ∃ k, WhileTo Y kd c body k σ f σ₂ := by
  induction h with
  | done h => exact ⟨_, .done h⟩
  | turn h r _ ih => obtain ⟨k, ih⟩ := ih; exact ⟨_, .turn h r.out ih⟩
  | brk h r => exact ⟨_, .brk h r.out⟩
  | ret h r => exact ⟨_, .ret h r.out⟩
theorem Fo.un {x : Str} {xs : List V} (h : Fo Y kd x body xs σ f σ₂) : ForTo Y kd x body xs σ f σ₂ := by
  induction h with
  | done => exact .done
  | turn r _ ih => exact .turn r.out ih
  | brk r => exact .brk r.out
  | ret r => exact .ret r.out

theorem Ru.nil : Ru Y kd [] σ .next σ := ⟨Run.nil⟩
theorem Ru.step (h : Xe Y kd st σ .next σ₁) (hr : Ru Y kd rest σ₁ f σ₂) : Ru Y kd (st :: rest) σ f σ₂ := ⟨Run.step h.out hr.out⟩
theorem Ru.last (h : Xe Y kd st σ f σ₂) (hf : f.stops = true) : Ru Y kd (st :: rest) σ f σ₂ := ⟨Run.last h.out fun q => by rw [q] at hf; cases hf⟩
theorem Xe.assign (ok : Y.Ok) {x : Str} {xp : Pos} {e : Expr} {v : V} (he : ev Y.C n false kd σ.vars e = some v) (hx : nameOk kd x = true) (hnp : notPair e = true) : Xe Y kd (.Assign [.Name x xp] e q) σ .next (σ.set x v) := ⟨Ex.assign ok (.inl he) hx hnp⟩
theorem Xe.assignV (ok : Y.Ok) {x : Str} {xp : Pos} {e : Expr} {v : V} (hs : scalarV v = true) (he : ev Y.C n false kd σ.view e = some v) (hx : nameOk kd x = true) (hnp : notPair e = true) : Xe Y kd (.Assign [.Name x xp] e q) σ .next (σ.set x v) := ⟨Ex.assign ok (.inr ⟨hs, he⟩) hx hnp⟩
theorem Xe.ret (ok : Y.Ok) {e : Expr} {v : V} (he : ev Y.C n false kd σ.view e = some v) : Xe Y kd (.Return (some e) q) σ (.ret v) σ := ⟨Ex.ret ok he⟩
theorem Xe.brk : Xe Y kd (.Break q) σ .brk σ := ⟨Ex.brk⟩
theorem Xe.ite (ok : Y.Ok) {c : Expr} {b : Bool} (hc : ev Y.C n true kd σ.view c = some (.bool b)) (h : Ru Y kd (if b = true then body else orelse) σ f σ₂) : Xe Y kd (.If c body orelse q) σ f σ₂ := ⟨Ex.ite ok hc h.out⟩
theorem Xe.while (ok : Y.Ok) {c : Expr} (h : Wh Y kd c body σ f σ₂) : Xe Y kd (.While c body [] q) σ f σ₂ := by
  obtain ⟨k, h⟩ := h.un
  exact ⟨Ex.while ok h⟩
theorem Xe.for (ok : Y.Ok) {x : Str} {px : Pos} {iter : Expr} {xs : List V} (he : evIter (Mine.ev Y.C n) kd σ.vars iter = some xs) (hset : notSet iter = true) (hx : nameOk kd x = true) (h : Fo Y kd x body xs σ f σ₂) : Xe Y kd (.For (.Name x px) iter body [] q) σ f σ₂ := ⟨Ex.for ok he hset hx h.un⟩
theorem Xe.forOwn (ok : Y.Ok) {x y o : Str} {px pw yp q' : Pos} {e : Expr} {xs : List V} (ho : σ.own = some (o, xs)) (hox : o ≠ x) (hoy : o ≠ y) (hx : nameOk kd x = true) (hy : nameOk kd y = true) (hxs : xs.all scalarV = true)
    (hs : ∀ env, swapsWith e (some (.Name y yp)) q'.line env = pure false) (h : FoldTo Y kd x y e xs σ σ₂) : Xe Y kd (.For (.Name x px) (.Name o pw) [.Assign [.Name y yp] e q'] [] q) σ .next σ₂ := ⟨Ex.forOwn ok ho hox hoy hx hy hxs hs h⟩
theorem Xe.aug (ok : Y.Ok) {op : Operator} {x : Str} {xp : Pos} {e : Expr} {a b c : Int} (ha : σ.vars.lookup x = some (.int a)) (he : ev Y.C n false kd σ.view e = some (.int b)) (hop : augI op a b = some c) (hx : nameOk kd x = true) : Xe Y kd (.AugAssign (.Name x xp) op e q) σ .next (σ.set x (.int c)) := ⟨Ex.aug ok ha (.inr ⟨rfl, he⟩) hop hx⟩
theorem Xe.two (ok : Y.Ok) {x y : Str} {xp yp : Pos} {e : Expr} {v : V} (he : ev Y.C n false kd σ.view e = some v) (hsc : scalarV v = true) (hx : nameOk kd x = true) (hy : nameOk kd y = true) : Xe Y kd (.Assign [.Name x xp, .Name y yp] e q) σ .next ((σ.set x v).set y v) := ⟨Ex.two ok (.inr ⟨hsc, he⟩) hsc hx hy⟩
theorem Xe.swap (ok : Y.Ok) {a b : Str} {ap bp ap' bp' tp tp' : Pos} {k k' : Nat} {va vb : V} (ea : σ.vars.lookup a = some va) (eb : σ.vars.lookup b = some vb) (sa : scalarV va = true) (sb : scalarV vb = true) (ha : nameOk kd a = true) (hb : nameOk kd b = true)
    (hw : ∀ env, env.scope.kind = .function → env.scope.names = kd → swappedStores [.Tuple [.Name a ap, .Name b bp] k tp] (.Tuple [.Name b bp', .Name a ap'] k' tp') env = pure (some [a, b])) : Xe Y kd (.Assign [.Tuple [.Name a ap, .Name b bp] k tp] (.Tuple [.Name b bp', .Name a ap'] k' tp') q) σ .next ((σ.set b va).set a vb) := ⟨Ex.swap ok ea eb sa sb ha hb hw⟩
theorem Xe.unpack5 (ok : Y.Ok) {a b c d e : Str} {ap bp cp dp ep tp : Pos} {k : Nat} {x : Expr} {va vb vc vd ve : V} (hx : ev Y.C n false kd σ.vars x = some (.list [va, vb, vc, vd, ve])) (hsc : [va, vb, vc, vd, ve].all scalarV = true) (hn : (nameOk kd a && nameOk kd b && nameOk kd c && nameOk kd d && nameOk kd e) = true)
    (hs : ∀ env, swapsWithSole [.Tuple [.Name a ap, .Name b bp, .Name c cp, .Name d dp, .Name e ep] k tp] x q.line env = pure false) (hw : ∀ env, swappedStores [.Tuple [.Name a ap, .Name b bp, .Name c cp, .Name d dp, .Name e ep] k tp] x env = pure none) :
    Xe Y kd (.Assign [.Tuple [.Name a ap, .Name b bp, .Name c cp, .Name d dp, .Name e ep] k tp] x q) σ .next (((((σ.set a va).set b vb).set c vc).set d vd).set e ve) := by
  simp only [Bool.and_eq_true] at hn
  obtain ⟨⟨⟨⟨h1, h2⟩, h3⟩, h4⟩, h5⟩ := hn
  refine ⟨Ex.unpack ok (ns := [(a, ap), (b, bp), (c, cp), (d, dp), (e, ep)]) (.inl hx) rfl hsc (fun p hp => ?_) hs hw⟩
  simp only [List.mem_cons, List.not_mem_nil, or_false] at hp
  rcases hp with rfl | rfl | rfl | rfl | rfl <;> assumption
theorem Xe.setItem (ok : Y.Ok) {x : Str} {xp tp : Pos} {ie e : Expr} {xs : List V} {k : Nat} {v : V} (ho : σ.own = some (x, xs)) (he : ev Y.C n false kd σ.view e = some v) (hsc : scalarV v = true) (hi : ev Y.C n false kd σ.view ie = some (.int k)) (hk : k < xs.length) (hxs : xs.all scalarV = true)
    (hs : ∀ env, swapsWith e (some (.Subscript (.Name x xp) ie tp)) q.line env = pure false) : Xe Y kd (.Assign [.Subscript (.Name x xp) ie tp] e q) σ .next ⟨σ.vars, some (x, xs.set k v)⟩ := ⟨Ex.setItem ok ho (.inr ⟨hsc, he⟩) hsc (.inr ⟨rfl, hi⟩) hk hxs hs⟩
theorem Xe.append (ok : Y.Ok) {x : Str} {xp apos pos : Pos} {e : Expr} {xs : List V} {v : V} (ho : σ.own = some (x, xs)) (he : ev Y.C n false kd σ.view e = some v) (hsc : scalarV v = true) (hxs : xs.all scalarV = true) (hst : notStar e = true) (hline : (apos.endLine == pos.line) = true) (hlen : xs.length < 2 ^ 20)
    (hs : ∀ env, swapsWith (.Call (.Attribute (.Name x xp) "append" apos) [e] [] pos) none q.line env = pure false) : Xe Y kd (.Expr (.Call (.Attribute (.Name x xp) "append" apos) [e] [] pos) q) σ .next ⟨σ.vars, some (x, xs ++ [v])⟩ := ⟨Ex.append ok ho (.inr ⟨hsc, he⟩) hsc hxs hst hline hlen hs⟩
theorem Xe.extend (ok : Y.Ok) {x : Str} {xp : Pos} {e : Expr} {xs ys : List V} (ho : σ.own = some (x, xs)) (he : ev Y.C n false kd σ.vars e = some (.list ys)) (hxs : xs.all scalarV = true) (hys : ys.all scalarV = true) (hlen : xs.length + ys.length ≤ 2 ^ 20) (hx : nameOk kd x = true) : Xe Y kd (.AugAssign (.Name x xp) .Add e q) σ .next ⟨σ.vars, some (x, xs ++ ys)⟩ := ⟨Ex.extend ok ho (.inl he) hxs hys hlen hx⟩
theorem Xe.ownNil {x : Str} {xp lp : Pos} (hx : nameOk kd x = true) : Xe Y kd (.Assign [.Name x xp] (.List [] lp) q) σ .next (σ.setOwn x []) := ⟨Ex.ownNil hx⟩
theorem Xe.ownRange (ok : Y.Ok) {x : Str} {xp lp rp cp cp' : Pos} {es : List Expr} {vs xs : List V} (hgl : isGlob kd σ.vars "list" = true) (hgr : isGlob kd σ.vars "range" = true) (e1 : evArgs (Mine.ev Y.C n) kd σ.vars es = some vs) (e2 : rangeV vs = some xs) (hx : nameOk kd x = true) :
    Xe Y kd (.Assign [.Name x xp] (.Call (.Name "list" lp) [.Call (.Name "range" rp) es [] cp'] [] cp) q) σ .next (σ.setOwn x xs) := ⟨Ex.ownRange ok hgl hgr e1 e2 hx⟩
theorem Xe.ownComp (ok : Y.Ok) {x : Str} {xp : Pos} {elt iter : Expr} {y : Str} {py q' : Pos} {ifs : List Expr} {sc : Scope} {xs : List V} (hc : ev Y.C (n + 1) false kd σ.vars (.ListComp elt [⟨.Name y py, iter, ifs, 0⟩] sc q') = some (.list xs)) (hsc : xs.all scalarV = true) (hle : xs.length ≤ 2 ^ 20) (hx : nameOk kd x = true) :
    Xe Y kd (.Assign [.Name x xp] (.ListComp elt [⟨.Name y py, iter, ifs, 0⟩] sc q') q) σ .next (σ.setOwn x xs) := ⟨Ex.ownComp ok hc hsc hle hx⟩
theorem Xe.try_ret {h₀ : ExceptHandler} {hs : List ExceptHandler} (h : Ru Y kd body σ (.ret v) σ₂) : Xe Y kd (.Try body (h₀ :: hs) [] [] q) σ (.ret v) σ₂ := ⟨Ex.try_ret h.out⟩
theorem Rx.step (h : Xe Y kd st σ .next σ₁) (r : Rx Y kd rest σ₁ C v) : Rx Y kd (st :: rest) σ C v := ⟨RunX.step h.out r.out⟩
theorem Rx.ite (ok : Y.Ok) {c : Expr} {b : Bool} (hc : ev Y.C n true kd σ.view c = some (.bool b)) (h : Rx Y kd (if b = true then body else orelse) σ C v) : Rx Y kd (.If c body orelse q :: rest) σ C v := ⟨RunX.ite ok hc h.out⟩
theorem Rx.raise (ok : Y.Ok) {x : Str} {np cpos : Pos} {e : Expr} {bm : List Value} {B newId initId : String} (he : ev Y.C n false kd σ.vars e = some v) (hst : notStar e = true) (hg : kd.lookup x = some .globalImplicit)
    (hx : nsIn Y.K mainGlobals x = some (some (.ref C))) (hq : excIn Y.K C bm newId = true) (FB : ExcBaseFacts B newId initId bm) : Rx Y kd (.Raise (some (.Call (.Name x np) [e] [] cpos)) none q :: rest) σ C v := ⟨RunX.raise ok (.inl he) hst hg hx hq FB⟩
theorem Vx.call (ok : Y.Ok) {fn : Str} {a : Addr} {es : List Expr} {vs : List V} {fp pos : Pos} (hg : isGlob kd σ.vars fn = true) (hne : es.isEmpty = false) (ef : Y.C.fn fn = some a) (e1 : evArgs (Mine.ev Y.C n) kd σ.vars es = some vs) (hc : CallX Y a vs C v) : Vx Y kd σ (.Call (.Name fn fp) es [] pos) C v := ⟨EvX.call ok hg (fun q => by rw [q] at hne; cases hne) ef e1 hc⟩
theorem Vx.ifexp (ok : Y.Ok) {c x y : Expr} {b : Bool} {pos : Pos} (hc : ev Y.C n true kd σ.vars c = some (.bool b)) (h : Vx Y kd σ (if b = true then x else y) C v) : Vx Y kd σ (.IfExp c x y pos) C v := ⟨EvX.ifexp ok hc h.out⟩
end
end Mine
namespace Mine

/-- some end state -/
structure Re (Y : Sys) (kd : Kd) (stmts : List Stmt) (σ : St) (f : Flw) : Prop where
  out : ∃ σ', Ru Y kd stmts σ f σ'

section
variable {Y : Sys} {n : Nat} {kd : Kd} {σ σ₁ σ₂ : St} {f : Flw} {rest body orelse : List Stmt} {st : Stmt} {q : Pos} {C : Addr} {v : V}

theorem Re.step (h : Xe Y kd st σ .next σ₁) (r : Re Y kd rest σ₁ f) : Re Y kd (st :: rest) σ f := let ⟨σ', r⟩ := r.out; ⟨σ', Ru.step h r⟩
theorem Re.last (h : Xe Y kd st σ f σ₁) (hf : f.stops = true) : Re Y kd (st :: rest) σ f := ⟨_, Ru.last h hf⟩
theorem Re.nil : Re Y kd [] σ .next := ⟨_, Ru.nil⟩
theorem Re.iteN (ok : Y.Ok) {c : Expr} {b : Bool} (hc : ev Y.C n true kd σ.view c = some (.bool b)) (h : Ru Y kd (if b = true then body else orelse) σ .next σ₁) (r : Re Y kd rest σ₁ f) : Re Y kd (.If c body orelse q :: rest) σ f := Re.step (Xe.ite ok hc h) r
theorem Re.iteS (ok : Y.Ok) {c : Expr} {b : Bool} (hc : ev Y.C n true kd σ.view c = some (.bool b)) (h : Re Y kd (if b = true then body else orelse) σ f) (hf : f.stops = true) : Re Y kd (.If c body orelse q :: rest) σ f := let ⟨_, r⟩ := h.out; Re.last (Xe.ite ok hc r) hf

/-- a while loop, by a measure; it ends by its test or a break -/
theorem Re.while (ok : Y.Ok) {c : Expr} (P : Nat → St → Prop) (R : St → Prop)
    (turn : ∀ k σ, P k σ → (∃ n, TsTo Y n kd σ c false ∧ R σ) ∨ (∃ n σ₁, TsTo Y n kd σ c true ∧ ((Ru Y kd body σ .next σ₁ ∧ ∃ j, j < k ∧ P j σ₁) ∨ (Ru Y kd body σ .brk σ₁ ∧ R σ₁))))
    (k : Nat) (h : P k σ) (r : ∀ σ₁, R σ₁ → Re Y kd rest σ₁ f) : Re Y kd (.While c body [] q :: rest) σ f := by
  have key : ∀ k σ, P k σ → ∃ σ₁, Wh Y kd c body σ .next σ₁ ∧ R σ₁ := by
    intro k
    induction k using Nat.strongRecOn with
    | _ k ih =>
      intro σ h
      rcases turn k σ h with ⟨n, t, hr⟩ | ⟨n, σ₁, t, ⟨hb, j, hj, hp⟩ | ⟨hb, hr⟩⟩
      · exact ⟨σ, .done t, hr⟩
      · obtain ⟨σ₂, hw, hr⟩ := ih j hj σ₁ hp
        exact ⟨σ₂, .turn t hb hw, hr⟩
      · exact ⟨σ₁, .brk t hb, hr⟩
  obtain ⟨σ₁, hw, hr⟩ := key k σ h
  exact Re.step (Xe.while ok hw) (r σ₁ hr)
/-- a for loop: each turn goes on -/
theorem Xe.forAll (ok : Y.Ok) {x : Str} {px : Pos} {iter : Expr} {xs : List V} (he : evIter (Mine.ev Y.C n) kd σ.vars iter = some xs) (hset : notSet iter = true) (hx : nameOk kd x = true) (P : List V → St → Prop)
    (turn : ∀ v vs σ, P (v :: vs) σ → ∃ σ₁, Ru Y kd body (σ.set x v) .next σ₁ ∧ P vs σ₁) (h : P xs σ) : ∃ σ₁, Xe Y kd (.For (.Name x px) iter body [] q) σ .next σ₁ ∧ P [] σ₁ := by
  have key : ∀ xs σ, P xs σ → ∃ σ₁, Fo Y kd x body xs σ .next σ₁ ∧ P [] σ₁ := by
    intro xs
    induction xs with
    | nil => exact fun σ h => ⟨σ, .done, h⟩
    | cons v vs ih =>
      intro σ h
      obtain ⟨σ₁, r, hp⟩ := turn v vs σ h
      obtain ⟨σ₂, hf, hp⟩ := ih σ₁ hp
      exact ⟨σ₂, .turn r hf, hp⟩
  obtain ⟨σ₁, hf, hp⟩ := key xs σ h
  exact ⟨σ₁, Xe.for ok he hset hx hf, hp⟩
theorem Re.for (ok : Y.Ok) {x : Str} {px : Pos} {iter : Expr} {xs : List V} (he : evIter (Mine.ev Y.C n) kd σ.vars iter = some xs) (hset : notSet iter = true) (hx : nameOk kd x = true) (P : List V → St → Prop)
    (turn : ∀ v vs σ, P (v :: vs) σ → ∃ σ₁, Ru Y kd body (σ.set x v) .next σ₁ ∧ P vs σ₁) (h : P xs σ) (r : ∀ σ₁, P [] σ₁ → Re Y kd rest σ₁ f) : Re Y kd (.For (.Name x px) iter body [] q :: rest) σ f := by
  obtain ⟨σ₁, hx, hp⟩ := Xe.forAll ok he hset hx P turn h
  exact Re.step hx (r σ₁ hp)
end
end Mine
namespace Mine

/-- a text by its signs -/
noncomputable def S (l : List Nat) : Str := ⟨l.toArray⟩
theorem S_len (l : List Nat) : (S l).length = l.length := by simp [S, Str.length]
theorem S_inj {a b : List Nat} : S a = S b ↔ a = b := by
  unfold S
  constructor
  · intro h
    have := congrArg (fun s : Str => s.cps.toList) h
    simpa using this
  · rintro rfl; rfl
theorem S_app (a b : List Nat) : S a ++ S b = S (a ++ b) := by
  show (⟨a.toArray ++ b.toArray⟩ : Str) = _
  unfold S
  simp
theorem S_of (x : Str) : x = S x.cps.toList := by cases x; simp [S]

theorem pick_range (d : List Nat) : ∀ m, (List.range m).filterMap (d[·]?) = d.take m
  | 0 => by simp
  | m + 1 => by
    rw [List.range_succ, List.filterMap_append, pick_range d m, List.take_add_one]
    cases h : d[m]? <;> simp [h]
noncomputable def clipN (k : Int) (n : Nat) : Nat := (max 0 (min (if k < 0 then k + n else k) n)).toNat
noncomputable def loN (lo : Option Int) (n : Nat) : Nat := lo.elim 0 (clipN · n)
noncomputable def hiN (hi : Option Int) (n : Nat) : Nat := hi.elim n (clipN · n)
theorem clipN_le (k : Int) (n : Nat) : clipN k n ≤ n := Int.toNat_le.mpr (Int.max_le.mpr ⟨Int.natCast_nonneg n, Int.min_le_right _ _⟩)
theorem clipN_nat (k n : Nat) : clipN (k : Int) n = min k n := by
  unfold clipN
  rw [if_neg (Int.not_lt.mpr (Int.natCast_nonneg k))]
  (first | lia | omega)
theorem clipN_neg (m n : Nat) (h0 : 0 < m) (h : m ≤ n) : clipN (-(m : Int)) n = n - m := by
  unfold clipN
  rw [if_pos (by (first | lia | omega)), Int.min_eq_left (by (first | lia | omega)), Int.max_eq_right (by (first | lia | omega))]
  (first | lia | omega)
theorem tk_min {α : Type} (l : List α) (k : Nat) : l.take (min k l.length) = l.take k := by
  rcases Nat.le_total k l.length with h | h
  · rw [Nat.min_eq_left h]
  · rw [Nat.min_eq_right h, List.take_length, List.take_of_length_le h]
theorem dr_min {α : Type} (l : List α) (k : Nat) : l.drop (min k l.length) = l.drop k := by
  rcases Nat.le_total k l.length with h | h
  · rw [Nat.min_eq_left h]
  · rw [Nat.min_eq_right h, List.drop_length, List.drop_eq_nil_of_le h]
theorem hiN_le (hi : Option Int) (n : Nat) : hiN hi n ≤ n := by
  unfold hiN
  cases hi with
  | none => exact Nat.le_refl _
  | some k => exact clipN_le k n
theorem indices_eq (lo hi : Option Int) (n : Nat) : Builtin.Str.strSliceIndices lo hi 1 n = (List.range (hiN hi n - loN lo n)).map (loN lo n + ·) := by
  have h1 : ∀ s e : Nat, sliceRange (s : Int) (e : Int) 1 = (List.range (e - s)).map (s + ·) := fun s e => by
    unfold sliceRange
    simp only [show (1 : Int) > 0 from by decide, if_true]
    have hc : (if (s : Int) < (e : Int) then ((e : Int) - s + 1 - 1) / 1 else 0).toNat = e - s := by
      split
      · rw [Int.ediv_one]; (first | lia | omega)
      · (first | lia | omega)
    rw [hc]
    apply List.map_congr_left
    intro k _
    (first | lia | omega)
  have hl : ∀ v : Option Int, (match v with | none => (0 : Int) | some i => max 0 (min (if i < 0 then i + (n : Int) else i) (n : Int))) = (loN v n : Int) := fun v => by
    cases v with
    | none => rfl
    | some k => exact (Int.toNat_of_nonneg (Int.le_max_left _ _)).symm
  have hh : ∀ v : Option Int, (match v with | none => (n : Int) | some i => max 0 (min (if i < 0 then i + (n : Int) else i) (n : Int))) = (hiN v n : Int) := fun v => by
    cases v with
    | none => rfl
    | some k => exact (Int.toNat_of_nonneg (Int.le_max_left _ _)).symm
  unfold Builtin.Str.strSliceIndices
  simp only [show (1 : Int) > 0 from by decide, if_true]
  rw [← h1, ← hl lo, ← hh hi]
  cases lo <;> cases hi <;> rfl
theorem sliceStr_S (l : List Nat) (lo hi : Option Int) : sliceStr (S l) lo hi = S ((l.drop (loN lo l.length)).take (hiN hi l.length - loN lo l.length)) := by
  unfold sliceStr
  rw [S_len, indices_eq]
  have key : ((List.range (hiN hi l.length - loN lo l.length)).map (loN lo l.length + ·)).filterMap ((S l).cps[·]?) = (l.drop (loN lo l.length)).take (hiN hi l.length - loN lo l.length) := by
    rw [List.filterMap_map, ← pick_range]
    congr 1
    funext k
    show (S l).cps[loN lo l.length + k]? = (l.drop (loN lo l.length))[k]?
    unfold S
    rw [List.getElem?_toArray, List.getElem?_drop]
  split
  · rename_i h
    simp only [List.length_map, List.length_range, beq_iff_eq] at h
    have h2 := hiN_le hi l.length
    by_cases h0 : l.length = 0
    · have : l = [] := List.eq_nil_of_length_eq_zero h0
      subst this; simp
    · have e1 : loN lo l.length = 0 := by (first | lia | omega)
      have e2 : hiN hi l.length = l.length := by (first | lia | omega)
      rw [e1, e2]; simp
  · rw [key]; rfl
theorem sl_S (l : List Nat) (lo hi : Option Int) : sliceV (.str (S l)) lo hi none = some (.str (S ((l.drop (loN lo l.length)).take (hiN hi l.length - loN lo l.length)))) := congrArg (fun x => some (V.str x)) (sliceStr_S l lo hi)
theorem sl_of {l m : List Nat} {lo hi : Option Int} (h : (l.drop (loN lo l.length)).take (hiN hi l.length - loN lo l.length) = m) : sliceV (.str (S l)) lo hi none = some (.str (S m)) := h ▸ sl_S l lo hi
theorem sl_take (l : List Nat) (k : Nat) : sliceV (.str (S l)) none (some (k : Int)) none = some (.str (S (l.take k))) := sl_of (by
  show (l.drop 0).take (clipN k l.length - 0) = _
  rw [clipN_nat, List.drop_zero, Nat.sub_zero, tk_min])
theorem sl_drop (l : List Nat) (k : Nat) : sliceV (.str (S l)) (some (k : Int)) none none = some (.str (S (l.drop k))) := sl_of (by
  show (l.drop (clipN k l.length)).take (l.length - clipN k l.length) = _
  rw [List.take_of_length_le (Nat.le_of_eq List.length_drop), clipN_nat, dr_min])
theorem sl_mid2 (l : List Nat) (i j : Nat) (hi : i ≤ l.length) : sliceV (.str (S l)) (some (i : Int)) (some (j : Int)) none = some (.str (S ((l.drop i).take (j - i)))) := sl_of (by
  show (l.drop (clipN i l.length)).take (clipN j l.length - clipN i l.length) = _
  rw [clipN_nat, clipN_nat, Nat.min_eq_left hi, show min j l.length - i = min (j - i) (l.drop i).length by rw [List.length_drop]; (first | lia | omega), tk_min])
theorem sl_mid (l : List Nat) (i j : Nat) (_hj : j ≤ l.length) (hi : i ≤ l.length) : sliceV (.str (S l)) (some (i : Int)) (some (j : Int)) none = some (.str (S ((l.drop i).take (j - i)))) := sl_mid2 l i j hi
theorem sl_neg (l : List Nat) (m : Nat) (h0 : 0 < m) (h : m ≤ l.length) : sliceV (.str (S l)) none (some (-(m : Int))) none = some (.str (S (l.take (l.length - m)))) := sl_of (by
  show (l.drop 0).take (clipN (-(m : Int)) l.length - 0) = _
  rw [clipN_neg m _ h0 h, List.drop_zero, Nat.sub_zero])
theorem sl_all (l : List Nat) : sliceV (.str (S l)) none none none = some (.str (S l)) := by
  simp only [sliceV, if_true]
  rw [sliceStr_S]
  congr 3
  unfold loN hiN
  simp
theorem ix_S (l : List Nat) (k : Nat) (c : Nat) (h : l[k]? = some c) (hk : k < 2 ^ 40) : idxV (.str (S l)) (.int k) = some (.str (S [c])) := by
  have hlt : k < l.length := by
    by_cases hlt : k < l.length
    · exact hlt
    · rw [List.getElem?_eq_none (by (first | lia | omega))] at h; cases h
  simp only [idxV]
  rw [if_pos (by (first | lia | omega))]
  have : seqIndex? (k : Int) (S l).length = some k := by
    unfold seqIndex?
    rw [S_len]
    simp
    (first | lia | omega)
  rw [this]
  show ((S l).cps[k]?).map _ = _
  unfold S
  rw [List.getElem?_toArray, h]
  rfl
end Mine
namespace Mine
set_option maxRecDepth 100000

/-- where the defs lie -/
structure Adr where
  a0 : Addr
  a1 : Addr
  a2 : Addr
  a3 : Addr
  a4 : Addr
  a5 : Addr
  a6 : Addr
  a7 : Addr
  a8 : Addr
  a9 : Addr
  a10 : Addr
  a11 : Addr
  a12 : Addr
  a13 : Addr
  a14 : Addr
  a15 : Addr
  a16 : Addr
  a17 : Addr
  a18 : Addr
noncomputable def fnT (A : Adr) (f : Str) : Option Addr :=
  if f = "add" then some A.a0
  else if f = "and_" then some A.a1
  else if f = "inv" then some A.a2
  else if f = "mul" then some A.a3
  else if f = "sub" then some A.a4
  else if f = "xor" then some A.a5
  else if f = "parse229" then some A.a6
  else if f = "parse257" then some A.a7
  else if f = "ISTERMINAL" then some A.a8
  else if f = "ISNONTERMINAL" then some A.a9
  else if f = "ISEOF" then some A.a10
  else if f = "_substitution_cost" then some A.a11
  else if f = "_levenshtein_distance" then some A.a12
  else if f = "_law_read" then some A.a13
  else if f = "_law_symbols" then some A.a14
  else if f = "_law_values" then some A.a15
  else if f = "_law_column" then some A.a16
  else if f = "_law_differ" then some A.a17
  else if f = "_law_word" then some A.a18
  else none
noncomputable def gcT (x : Str) : Option Int :=
  if x = "NT_OFFSET" then some 256 else if x = "ENDMARKER" then some 0 else if x = "_MAX_STRING_SIZE" then some 40 else if x = "_MOVE_COST" then some 2 else if x = "_CASE_COST" then some 1 else none
noncomputable def tokT : List (Str × Int) := [(("!" : Str), (54 : Int)), (("!=" : Str), (28 : Int)), (("%" : Str), (24 : Int)), (("%=" : Str), (40 : Int)), (("&" : Str), (19 : Int)), (("&=" : Str), (41 : Int)), (("(" : Str), (7 : Int)), ((")" : Str), (8 : Int)), (("*" : Str), (16 : Int)), (("**" : Str), (35 : Int)), (("**=" : Str), (46 : Int)), (("*=" : Str), (38 : Int)), (("+" : Str), (14 : Int)), (("+=" : Str), (36 : Int)), (("," : Str), (12 : Int)), (("-" : Str), (15 : Int)), (("-=" : Str), (37 : Int)), (("->" : Str), (51 : Int)), (("." : Str), (23 : Int)), (("..." : Str), (52 : Int)), (("/" : Str), (17 : Int)), (("//" : Str), (47 : Int)), (("//=" : Str), (48 : Int)), (("/=" : Str), (39 : Int)), ((":" : Str), (11 : Int)), ((":=" : Str), (53 : Int)), ((";" : Str), (13 : Int)), (("<" : Str), (20 : Int)), (("<<" : Str), (33 : Int)), (("<<=" : Str), (44 : Int)), (("<=" : Str), (29 : Int)), (("=" : Str), (22 : Int)), (("==" : Str), (27 : Int)), ((">" : Str), (21 : Int)), ((">=" : Str), (30 : Int)), ((">>" : Str), (34 : Int)), ((">>=" : Str), (45 : Int)), (("@" : Str), (49 : Int)), (("@=" : Str), (50 : Int)), (("[" : Str), (9 : Int)), (("]" : Str), (10 : Int)), (("^" : Str), (32 : Int)), (("^=" : Str), (43 : Int)), (("{" : Str), (25 : Int)), (("|" : Str), (18 : Int)), (("|=" : Str), (42 : Int)), (("}" : Str), (26 : Int)), (("~" : Str), (31 : Int))]
noncomputable def gdT (x : Str) : Option (List (Str × Int)) := if x = "EXACT_TOKEN_TYPES" then some tokT else none
noncomputable def cfgOf (A : Adr) (phi : Str → List V → Option V) : Cfg := ⟨gcT, gdT, fnT A, phi⟩
noncomputable abbrev sysOf (A : Adr) (phi : Str → List V → Option V) (prog : Program) (w : World) (K : Frag) (p : Program) (loose : List Str) (mg mb : Str → Option Value) (lvl : Nat) : Sys := ⟨cfgOf A phi, prog, w, K, p, loose, mg, mb, lvl⟩


section
variable {D : Adr} {phi : Str → List V → Option V} {prog : Program} {w : World} {K : Frag} {p : Program} {loose : List Str} {mg mb : Str → Option Value} {lvl : Nat} {a b v : V}

theorem run_add (ok : (sysOf D phi prog w K p loose mg mb lvl).Ok) (h : binV .Add a b = some v) : Ru (sysOf D phi prog w K p loose mg mb lvl) (kdAt 1) (bodyAt 1) ⟨[("a", a), ("b", b)], none⟩ (.ret v) ⟨[("a", a), ("b", b)], none⟩ := Ru.last (Xe.ret ok (n := 3) (r_bin (r_name rfl) (r_name rfl) h)) rfl
theorem run_and (ok : (sysOf D phi prog w K p loose mg mb lvl).Ok) (h : binV .BitAnd a b = some v) : Ru (sysOf D phi prog w K p loose mg mb lvl) (kdAt 2) (bodyAt 2) ⟨[("a", a), ("b", b)], none⟩ (.ret v) ⟨[("a", a), ("b", b)], none⟩ := Ru.last (Xe.ret ok (n := 3) (r_bin (r_name rfl) (r_name rfl) h)) rfl
theorem run_inv (ok : (sysOf D phi prog w K p loose mg mb lvl).Ok) (h : unV .Invert a = some v) : Ru (sysOf D phi prog w K p loose mg mb lvl) (kdAt 3) (bodyAt 3) ⟨[("a", a)], none⟩ (.ret v) ⟨[("a", a)], none⟩ := Ru.last (Xe.ret ok (n := 3) (r_un (r_name rfl) h)) rfl
theorem run_mul (ok : (sysOf D phi prog w K p loose mg mb lvl).Ok) (h : binV .Mult a b = some v) : Ru (sysOf D phi prog w K p loose mg mb lvl) (kdAt 4) (bodyAt 4) ⟨[("a", a), ("b", b)], none⟩ (.ret v) ⟨[("a", a), ("b", b)], none⟩ := Ru.last (Xe.ret ok (n := 3) (r_bin (r_name rfl) (r_name rfl) h)) rfl
theorem run_sub (ok : (sysOf D phi prog w K p loose mg mb lvl).Ok) (h : binV .Sub a b = some v) : Ru (sysOf D phi prog w K p loose mg mb lvl) (kdAt 5) (bodyAt 5) ⟨[("a", a), ("b", b)], none⟩ (.ret v) ⟨[("a", a), ("b", b)], none⟩ := Ru.last (Xe.ret ok (n := 3) (r_bin (r_name rfl) (r_name rfl) h)) rfl
theorem run_xor (ok : (sysOf D phi prog w K p loose mg mb lvl).Ok) (h : binV .BitXor a b = some v) : Ru (sysOf D phi prog w K p loose mg mb lvl) (kdAt 6) (bodyAt 6) ⟨[("a", a), ("b", b)], none⟩ (.ret v) ⟨[("a", a), ("b", b)], none⟩ := Ru.last (Xe.ret ok (n := 3) (r_bin (r_name rfl) (r_name rfl) h)) rfl
theorem run_term (ok : (sysOf D phi prog w K p loose mg mb lvl).Ok) (h : cmpV .Lt a (.int 256) = some v) : Ru (sysOf D phi prog w K p loose mg mb lvl) (kdAt 65) (bodyAt 65) ⟨[("x", a)], none⟩ (.ret v) ⟨[("x", a)], none⟩ := Ru.last (Xe.ret ok (n := 3) (r_cmp rfl rfl (r_name rfl) (r_glob rfl rfl) h)) rfl
theorem run_nont (ok : (sysOf D phi prog w K p loose mg mb lvl).Ok) (h : cmpV .GtE a (.int 256) = some v) : Ru (sysOf D phi prog w K p loose mg mb lvl) (kdAt 66) (bodyAt 66) ⟨[("x", a)], none⟩ (.ret v) ⟨[("x", a)], none⟩ := Ru.last (Xe.ret ok (n := 3) (r_cmp rfl rfl (r_name rfl) (r_glob rfl rfl) h)) rfl
theorem run_eof (ok : (sysOf D phi prog w K p loose mg mb lvl).Ok) (h : cmpV .Eq a (.int 0) = some v) : Ru (sysOf D phi prog w K p loose mg mb lvl) (kdAt 67) (bodyAt 67) ⟨[("x", a)], none⟩ (.ret v) ⟨[("x", a)], none⟩ := Ru.last (Xe.ret ok (n := 3) (r_cmp rfl rfl (r_name rfl) (r_glob rfl rfl) h)) rfl

noncomputable def substF (a b : Str) : Int := if a = b then 0 else if Txt.lower a = Txt.lower b then 1 else 2
theorem run_subst {a b : Str} (ok : (sysOf D phi prog w K p loose mg mb lvl).Ok) (ha : a.length ≤ 1000) (hb : b.length ≤ 1000) (hla : (Txt.lower a).length ≤ 2 ^ 20) (hlb : (Txt.lower b).length ≤ 2 ^ 20) :
    Ru (sysOf D phi prog w K p loose mg mb lvl) (kdAt 72) (bodyAt 72) ⟨[("ch_a", .str a), ("ch_b", .str b)], none⟩ (.ret (.int (substF a b))) ⟨[("ch_a", .str a), ("ch_b", .str b)], none⟩ := by
  unfold substF
  by_cases h1 : a = b
  · subst h1
    rw [if_pos rfl]
    refine Ru.last (Xe.ite ok (n := 6) (b := true) (t_val rfl (r_cmp rfl rfl (r_name rfl) (r_name rfl) rfl) (by simp [truthV])) (Ru.last (Xe.ret ok (n := 3) r_int) rfl)) rfl
  · rw [if_neg h1]
    refine Ru.step (Xe.ite ok (n := 6) (b := false) (t_val rfl (r_cmp rfl rfl (r_name rfl) (r_name rfl) rfl) (by simp [truthV, h1])) Ru.nil) ?_
    have la : methV "lower" (.str a) [] = some (.str (Txt.lower a)) := by unfold methV; simp [ha, hla]
    have lb : methV "lower" (.str b) [] = some (.str (Txt.lower b)) := by unfold methV; simp [hb, hlb]
    by_cases h2 : Txt.lower a = Txt.lower b
    · rw [if_pos h2]
      exact Ru.last (Xe.ite ok (n := 6) (b := true) (t_val rfl (r_cmp rfl rfl (r_meth rfl (by decide) rfl rfl (r_name rfl) a_nil la) (r_meth rfl (by decide) rfl rfl (r_name rfl) a_nil lb) rfl) (by simp [truthV, h2])) (Ru.last (Xe.ret ok (n := 3) (r_glob rfl rfl)) rfl)) rfl
    · rw [if_neg h2]
      refine Ru.step (Xe.ite ok (n := 6) (b := false) (t_val rfl (r_cmp rfl rfl (r_meth rfl (by decide) rfl rfl (r_name rfl) a_nil la) (r_meth rfl (by decide) rfl rfl (r_name rfl) a_nil lb) rfl) (by simp [truthV, h2])) Ru.nil) ?_
      exact Ru.last (Xe.ret ok (n := 3) (r_glob rfl rfl)) rfl
end
end Mine
namespace Mine
set_option maxRecDepth 100000

section
variable {D : Adr} {phi : Str → List V → Option V} {prog : Program} {w : World} {K : Frag} {p : Program} {loose : List Str} {mg mb : Str → Option Value} {lvl : Nat} {a b v : V}

noncomputable def colK : Nat → Int
  | 0 => 1431655765
  | 1 => 858993459
  | 2 => 252645135
  | 3 => 16711935
  | _ => 65535
noncomputable def colF (x : Int) : Int := colK (x.fmod 5).toNat
theorem fmod5 (x : Int) : x.fmod 5 = 0 ∨ x.fmod 5 = 1 ∨ x.fmod 5 = 2 ∨ x.fmod 5 = 3 ∨ x.fmod 5 = 4 := by
  have h1 := Int.fmod_nonneg_of_pos x (b := 5) (by decide)
  have h2 := Int.fmod_lt_of_pos x (b := 5) (by decide)
  (first | lia | omega)
theorem run_column (ok : (sysOf D phi prog w K p loose mg mb lvl).Ok) (x : Int) : Ru (sysOf D phi prog w K p loose mg mb lvl) (kdAt 78) (bodyAt 78) ⟨[("place", .int x)], none⟩ (.ret (.int (colF x))) ⟨[("place", .int x)], none⟩ := by
  have key : ∀ m r s t : Int, x.fmod 5 = m → (decide (0 ≤ m) && decide ((Builtin.Int.intBits 2 : Int) * m ≤ 2 ^ 27)) = true → 2 ^ m.toNat = r → (decide (0 ≤ r) && decide ((Builtin.Int.intBits 2 : Int) * r ≤ 2 ^ 27)) = true → 2 ^ r.toNat = s →
      (decide (s + 1 ≠ 0) && decide ((s + 1).natAbs < 1073741824)) = true → (4294967296 - 1 : Int).fdiv (s + 1) = t → colF x = t → Ru (sysOf D phi prog w K p loose mg mb lvl) (kdAt 78) (bodyAt 78) ⟨[("place", .int x)], none⟩ (.ret (.int (colF x))) ⟨[("place", .int x)], none⟩ := by
    intro m r s t h1 h2 h3 h4 h5 h6 h7 h8
    rw [h8]
    conv => arg 2; whnf
    conv => arg 3; whnf
    exact Ru.last (Xe.ret ok (n := 9) (r_bin (r_bin (r_bin r_int r_int (b_pow (by decide +kernel) (by decide +kernel))) r_int rfl) (r_bin (r_bin r_int (r_bin r_int (r_bin (r_name rfl) r_int (b_mod rfl h1)) (b_pow h2 h3)) (b_pow h4 h5)) r_int rfl) (b_div h6 h7))) rfl
  have cf : ∀ k : Nat, x.fmod 5 = k → colF x = colK k := fun k hk => by unfold colF; rw [hk]; rfl
  rcases fmod5 x with h | h | h | h | h
  · exact key 0 1 2 1431655765 h (by decide +kernel) (by decide +kernel) (by decide +kernel) (by decide +kernel) (by decide +kernel) (by decide +kernel) (cf 0 h)
  · exact key 1 2 4 858993459 h (by decide +kernel) (by decide +kernel) (by decide +kernel) (by decide +kernel) (by decide +kernel) (by decide +kernel) (cf 1 h)
  · exact key 2 4 16 252645135 h (by decide +kernel) (by decide +kernel) (by decide +kernel) (by decide +kernel) (by decide +kernel) (by decide +kernel) (cf 2 h)
  · exact key 3 8 256 16711935 h (by decide +kernel) (by decide +kernel) (by decide +kernel) (by decide +kernel) (by decide +kernel) (by decide +kernel) (cf 3 h)
  · exact key 4 16 65536 65535 h (by decide +kernel) (by decide +kernel) (by decide +kernel) (by decide +kernel) (by decide +kernel) (by decide +kernel) (cf 4 h)

noncomputable def bitF (x : Int) (i : Nat) : Bool := Builtin.bitAnd (x.fdiv (2 ^ i)) 1 != 0
noncomputable def letF (k : Nat) (b : Bool) : Str := ⟨#[(if b then 65 else 97) + k]⟩
noncomputable def wordF (x : Int) (q : Nat) : Str := ⟨#[(if bitF x (4 * q) then 65 else 97), (if bitF x (4 * q + 1) then 65 else 97) + 1, (if bitF x (4 * q + 2) then 65 else 97) + 2, (if bitF x (4 * q + 3) then 65 else 97) + 3]⟩
theorem rshift_ok (x : Int) (q k : Nat) : binV .RShift (.int x) (.int (4 * (q : Int) + (k : Int))) = some (.int (x.fdiv (2 ^ (4 * q + k)))) := by
  have h : (0 : Int) ≤ 4 * (q : Int) + (k : Int) := by (first | lia | omega)
  have e : (4 * (q : Int) + (k : Int)).toNat = 4 * q + k := by (first | lia | omega)
  exact b_shr (decide_eq_true h) (by rw [e])
theorem run_word (ok : (sysOf D phi prog w K p loose mg mb lvl).Ok) (x : Int) (q : Nat) (hq : q ≤ 7) : Ru (sysOf D phi prog w K p loose mg mb lvl) (kdAt 80) (bodyAt 80) ⟨[("value", .int x), ("part", .int q)], none⟩ (.ret (.str (wordF x q))) ⟨[("value", .int x), ("part", .int q)], none⟩ := by
  have hm : binV .Mult (.int 4) (.int (q : Int)) = some (.int (4 * (q : Int))) := b_mul (.of_left (by decide)) rfl
  have hj : methV "join" (.str "") [.list [.str (letF 0 (bitF x (4 * q))), .str (letF 1 (bitF x (4 * q + 1))), .str (letF 2 (bitF x (4 * q + 2))), .str (letF 3 (bitF x (4 * q + 3)))]] = some (.str (wordF x q)) := by
    unfold wordF
    cases bitF x (4 * q) <;> cases bitF x (4 * q + 1) <;> cases bitF x (4 * q + 2) <;> cases bitF x (4 * q + 3) <;> rfl
  have tst : ∀ (k : Nat), binV .BitAnd (.int (x.fdiv (2 ^ (4 * q + k)))) (.int 1) = some (.int (Builtin.bitAnd (x.fdiv (2 ^ (4 * q + k))) 1)) := fun k => rfl
  conv => arg 2; whnf
  conv => arg 3; whnf
  refine Ru.last (Xe.ret ok (n := 9) (r_meth rfl (by decide) rfl rfl (r_str (by decide)) (a_cons (r_comp0 ⟨rfl, rfl, rfl⟩ (i_range rfl (by decide) (a_cons r_int a_nil rfl) (g_range (k := 4) (by decide))) (by decide) ?_) a_nil rfl) hj)) rfl
  refine c_cons (m_some (r_if (c := bitF x (4 * q)) (t_val rfl (r_bin (r_bin (r_name rfl) (r_bin (r_bin r_int (r_name rfl) hm) (r_name rfl) rfl) (rshift_ok x q 0)) r_int (tst 0)) rfl) ?_)) ?_
  · cases bitF x (4 * q)
    · exact r_idx (r_str (by decide)) (r_name rfl) (by rfl) rfl rfl
    · exact r_idx (r_str (by decide)) (r_name rfl) (by rfl) rfl rfl
  refine c_cons (m_some (r_if (c := bitF x (4 * q + 1)) (t_val rfl (r_bin (r_bin (r_name rfl) (r_bin (r_bin r_int (r_name rfl) hm) (r_name rfl) rfl) (rshift_ok x q 1)) r_int (tst 1)) rfl) ?_)) ?_
  · cases bitF x (4 * q + 1)
    · exact r_idx (r_str (by decide)) (r_name rfl) (by rfl) rfl rfl
    · exact r_idx (r_str (by decide)) (r_name rfl) (by rfl) rfl rfl
  refine c_cons (m_some (r_if (c := bitF x (4 * q + 2)) (t_val rfl (r_bin (r_bin (r_name rfl) (r_bin (r_bin r_int (r_name rfl) hm) (r_name rfl) rfl) (rshift_ok x q 2)) r_int (tst 2)) rfl) ?_)) ?_
  · cases bitF x (4 * q + 2)
    · exact r_idx (r_str (by decide)) (r_name rfl) (by rfl) rfl rfl
    · exact r_idx (r_str (by decide)) (r_name rfl) (by rfl) rfl rfl
  refine c_cons (m_some (r_if (c := bitF x (4 * q + 3)) (t_val rfl (r_bin (r_bin (r_name rfl) (r_bin (r_bin r_int (r_name rfl) hm) (r_name rfl) rfl) (rshift_ok x q 3)) r_int (tst 3)) rfl) ?_)) c_nil
  · cases bitF x (4 * q + 3)
    · exact r_idx (r_str (by decide)) (r_name rfl) (by rfl) rfl rfl
    · exact r_idx (r_str (by decide)) (r_name rfl) (by rfl) rfl rfl
end
end Mine
namespace Mine
set_option maxRecDepth 100000

noncomputable def tok? (l : List Nat) (k : Nat) : Option Int := tokT.lookup (S (l.take k))
noncomputable def tokLen (l : List Nat) : Nat := if (tok? l 3).isSome = true then 3 else if (tok? l 2).isSome = true then 2 else 1
noncomputable def tokVal (l : List Nat) : Int := match tok? l (tokLen l) with | some i => i | none => 256 + Txt.find "abcde" (S (l.take 1))
theorem tokLen_pos (l : List Nat) : 1 ≤ tokLen l := by unfold tokLen; split <;> (try split) <;> decide
noncomputable def symL (l : List Nat) : List Int := if h : l = [] then [] else tokVal l :: symL (l.drop (tokLen l))
termination_by l.length
decreasing_by
  have := tokLen_pos l
  have : 0 < l.length := List.length_pos_iff.mpr h
  rw [List.length_drop]; (first | lia | omega)

theorem symL_le : ∀ l : List Nat, (symL l).length ≤ l.length := by
  intro l
  induction h : l.length using Nat.strongRecOn generalizing l with
  | _ n ih =>
    unfold symL
    split
    · simp
    · rename_i hn
      have hp := tokLen_pos l
      have h0 : 0 < l.length := List.length_pos_iff.mpr hn
      have := ih (l.drop (tokLen l)).length (by rw [List.length_drop]; (first | lia | omega)) _ rfl
      rw [List.length_drop] at this
      simp
      (first | lia | omega)
section
variable {D : Adr} {phi : Str → List V → Option V} {prog : Program} {w : World} {K : Frag} {p : Program} {loose : List Str} {mg mb : Str → Option Value} {lvl : Nat} {a b v : V}

theorem run_symbols (ok : (sysOf D phi prog w K p loose mg mb lvl).Ok) (l : List Nat) (hl : l.length < 2 ^ 20) : Re (sysOf D phi prog w K p loose mg mb lvl) (kdAt 76) (bodyAt 76) ⟨[("text", .str (S l))], none⟩ (.ret (.list ((symL l).map .int ++ [.int 0]))) := by
  conv in (kdAt 76) => whnf
  conv in (bodyAt 76) => whnf
  refine Re.step (Xe.ownNil rfl) ?_
  refine Re.while ok (fun k σ => ∃ (m : List Nat) (acc : List Int) (vs : Vars), k = m.length ∧ σ = ⟨vs, some ("row", acc.map .int)⟩ ∧ m.length + acc.length ≤ l.length ∧ acc ++ symL m = symL l ∧
      setV "size" (.int 3) vs = [(("text" : Str), V.str (S m)), (("size" : Str), V.int 3)] ∧ vs.lookup ("text" : Str) = some (V.str (S m))) (fun σ => ∃ vs : Vars, σ = ⟨vs, some ("row", (symL l).map .int)⟩) ?_ l.length ⟨l, [], [("text", .str (S l))], rfl, rfl, by simp, rfl, rfl, rfl⟩ ?_
  · rintro k σ ⟨m, acc, vs, rfl, rfl, hle, hsym, hset, htext⟩
    by_cases hm : m = []
    · subst hm
      left
      refine ⟨8, t_val rfl (r_cmp rfl rfl (r_name (show (List.lookup ("text" : Str) ((("row" : Str), V.list _) :: vs)) = _ from htext)) (r_str (by decide)) rfl) rfl, vs, ?_⟩
      rw [show symL ([] : List Nat) = [] by unfold symL; simp, List.append_nil] at hsym
      rw [hsym]
    · right
      obtain ⟨c, m', rfl⟩ : ∃ c m', m = c :: m' := by cases m with | nil => exact absurd rfl hm | cons c m' => exact ⟨c, m', rfl⟩
      have hne : ((S (c :: m') : Str) != ("" : Str)) = true := by
        rw [bne_iff_ne, show ("" : Str) = S [] from rfl]
        intro h; have := S_inj.mp h; cases this
      have hall : (acc.map V.int).all scalarV = true := by simp [List.all_map, scalarV]
      have e1 : St.set ⟨vs, some ("row", acc.map .int)⟩ "size" (.int 3) = ⟨[(("text" : Str), V.str (S (c :: m'))), (("size" : Str), V.int 3)], some ("row", acc.map .int)⟩ := by
        unfold St.set; rw [hset]; rfl
      have eT : (match tokT.lookup (S ((c :: m').take (tokLen (c :: m')))) with | some i => V.int i | none => V.int (256 + Txt.find "abcde" (S [c]))) = V.int (tokVal (c :: m')) := by
        unfold tokVal tok?
        cases tokT.lookup (S ((c :: m').take (tokLen (c :: m')))) <;> rfl
      refine ⟨8, ⟨[(("text" : Str), V.str (S ((c :: m').drop (tokLen (c :: m'))))), (("size" : Str), V.int (tokLen (c :: m')))], some ("row", acc.map .int ++ [.int (tokVal (c :: m'))])⟩,
        t_val rfl (r_cmp rfl rfl (r_name (show (List.lookup ("text" : Str) ((("row" : Str), V.list _) :: vs)) = _ from htext)) (r_str (by decide)) rfl) (show some _ = some true by rw [hne]), .inl ⟨?_, ?_⟩⟩
      · refine Ru.step (σ₁ := ⟨[(("text" : Str), V.str (S (c :: m'))), (("size" : Str), V.int 3)], some ("row", acc.map .int)⟩) (by rw [← e1]; exact Xe.assign ok (n := 3) r_int rfl rfl) ?_
        refine Ru.step (Xe.while ok (σ₂ := ⟨[(("text" : Str), V.str (S (c :: m'))), (("size" : Str), V.int (tokLen (c :: m')))], some ("row", acc.map .int)⟩) ?_) ?_
        · unfold tokLen
          cases h3 : (tok? (c :: m') 3).isSome with
          | true =>
            simp only [if_true]
            exact .done (n := 9) (t_bool (b_and_t (t_val rfl (r_cmp rfl rfl (r_name rfl) r_int rfl) rfl) (b_and_f (t_val rfl (r_notin rfl rfl (r_slice (r_name rfl) p_none (p_some (r_name rfl)) p_none rfl rfl rfl (sl_take (c :: m') 3) rfl)) (show some (!(tok? (c :: m') 3).isSome) = _ by rw [h3]; rfl)))))
          | false =>
            simp only [Bool.false_eq_true, if_false]
            refine .turn (n := 9) (t_bool (b_and_t (t_val rfl (r_cmp rfl rfl (r_name rfl) r_int rfl) rfl) (b_and_t (t_val rfl (r_notin rfl rfl (r_slice (r_name rfl) p_none (p_some (r_name rfl)) p_none rfl rfl rfl (sl_take (c :: m') 3) rfl)) (show some (!(tok? (c :: m') 3).isSome) = _ by rw [h3]; rfl)) b_and_nil)))
              (Ru.step (Xe.aug ok (n := 3) rfl r_int (show augI .Sub 3 1 = some 2 by rfl) rfl) Ru.nil) ?_
            cases h2 : (tok? (c :: m') 2).isSome with
            | true =>
              simp only [if_true]
              exact .done (n := 9) (t_bool (b_and_t (t_val rfl (r_cmp rfl rfl (r_name rfl) r_int rfl) rfl) (b_and_f (t_val rfl (r_notin rfl rfl (r_slice (r_name rfl) p_none (p_some (r_name rfl)) p_none rfl rfl rfl (sl_take (c :: m') 2) rfl)) (show some (!(tok? (c :: m') 2).isSome) = _ by rw [h2]; rfl)))))
            | false =>
              simp only [Bool.false_eq_true, if_false]
              refine .turn (n := 9) (t_bool (b_and_t (t_val rfl (r_cmp rfl rfl (r_name rfl) r_int rfl) rfl) (b_and_t (t_val rfl (r_notin rfl rfl (r_slice (r_name rfl) p_none (p_some (r_name rfl)) p_none rfl rfl rfl (sl_take (c :: m') 2) rfl)) (show some (!(tok? (c :: m') 2).isSome) = _ by rw [h2]; rfl)) b_and_nil)))
                (Ru.step (Xe.aug ok (n := 3) rfl r_int (show augI .Sub 2 1 = some 1 by rfl) rfl) Ru.nil) ?_
              exact .done (n := 9) (t_bool (b_and_f (t_val rfl (r_cmp rfl rfl (r_name rfl) r_int rfl) rfl)))
        · refine Ru.step (Xe.append ok (n := 12) rfl (show _ = some (V.int (tokVal (c :: m'))) by
            rw [← eT]
            exact r_get rfl rfl rfl rfl (r_slice (r_name rfl) p_none (p_some (r_name rfl)) p_none rfl rfl rfl (sl_take (c :: m') (tokLen (c :: m'))) rfl) (r_bin r_int (r_meth rfl (by decide) rfl rfl (r_str (by decide)) (a_cons (r_idx (r_name rfl) r_int (ix_S (c :: m') 0 c rfl (by decide)) rfl rfl) a_nil rfl) rfl) rfl)) rfl hall rfl rfl (by rw [List.length_map]; simp at hle; (first | lia | omega)) fun _ => rfl) ?_
          exact Ru.step (Xe.assign ok (n := 9) (r_slice (r_name rfl) (p_some (r_name rfl)) p_none p_none rfl rfl rfl (sl_drop (c :: m') (tokLen (c :: m'))) rfl) rfl rfl) Ru.nil
      · have hp := tokLen_pos (c :: m')
        have hlen : ((c :: m').drop (tokLen (c :: m'))).length < (c :: m').length := by rw [List.length_drop]; simp; (first | lia | omega)
        refine ⟨_, hlen, _, acc ++ [tokVal (c :: m')], [(("text" : Str), V.str (S ((c :: m').drop (tokLen (c :: m'))))), (("size" : Str), V.int (tokLen (c :: m')))], rfl, by simp, ?_, ?_, rfl, rfl⟩
        · rw [List.length_append]; simp at hle hlen ⊢; (first | lia | omega)
        · rw [List.append_assoc, ← hsym]
          congr 1
          conv => rhs; unfold symL
          simp
  · rintro σ ⟨vs, rfl⟩
    exact Re.last (Xe.ret ok (n := 8) (r_bin (r_name rfl) (r_list (a_cons r_int a_nil rfl) (by decide)) (b_join (by have := symL_le l; simp; (first | lia | omega))))) rfl
end
end Mine
namespace Mine

/-- fewer names said of a state -/
structure Sub (σ' σ : St) : Prop where
  own : σ'.own = σ.own
  vars : ∀ x v, σ'.vars.lookup x = some v → σ.vars.lookup x = some v
/-- the own list turned into a plain one -/
noncomputable def St.plain (σ : St) : St := ⟨σ.view, none⟩

inductive AllHas (l : Vars) : Vars → Prop where
  | nil : AllHas l []
  | cons {x : Str} {v : V} {r : Vars} : l.lookup x = some v → AllHas l r → AllHas l ((x, v) :: r)
theorem AllHas.sub {l : Vars} : ∀ {r : Vars}, AllHas l r → ∀ x v, r.lookup x = some v → l.lookup x = some v
  | [], _, x, v, e => by simp at e
  | (y, u) :: r, h, x, v, e => by
    cases h with
    | cons h1 h2 =>
      rw [List.lookup_cons] at e
      cases hx : x == y with
      | true =>
        have := beq_iff_eq.mp hx; subst this
        rw [hx] at e; cases e; exact h1
      | false => rw [hx] at e; exact h2.sub x v e
theorem Sub.of {l r : Vars} {o : Option (Str × List V)} (h : AllHas l r) : Sub ⟨r, o⟩ ⟨l, o⟩ := ⟨rfl, h.sub⟩

section
variable {s₀ s : Shared} {W Wf : List Addr} {Pk : List (Addr × Obj)} {env : Env} {m cm : Str → Option Value} {σ σ' : St}
theorem SRep.weak (h : Sub σ' σ) (R : SRep s₀ W Pk env σ s) : SRep s₀ W Pk env σ' s := by
  obtain ⟨Wf, m, cm, S, P⟩ := R
  exact ⟨Wf, m, cm, ⟨S.ic, fun x v e => S.vars x v (h.vars x v e), by rw [h.own]; exact S.own⟩, P⟩
end
section
variable {Y : Sys} {n : Nat} {kd : Kd} {σ σ' σ₁ σ₂ : St} {f : Flw} {rest body orelse stmts : List Stmt} {st : Stmt} {q : Pos} {C : Addr} {v : V}
theorem FRes.weak {s₀ : Shared} {W : List Addr} {Pk : List (Addr × Obj)} {env : Env} {fl : Flow} {s' : Shared} (h : Sub σ' σ₁) (r : FRes s₀ W Pk env f σ₁ fl s') : FRes s₀ W Pk env f σ' fl s' := by
  cases f with
  | next => exact ⟨r.1, r.2.weak h⟩
  | brk => exact ⟨r.1, r.2.weak h⟩
  | ret v => exact r
theorem Ru.weak (h : Sub σ' σ) (r : Ru Y kd stmts σ' f σ₂) : Ru Y kd stmts σ f σ₂ := ⟨fun A s₀ s W Pk env hr F R => r.out A s₀ s W Pk env hr F (R.weak h)⟩
theorem Ru.weakEnd (h : Sub σ' σ₁) (r : Ru Y kd stmts σ f σ₁) : Ru Y kd stmts σ f σ' := ⟨fun A s₀ s W Pk env hr F R => wpAny_mono (r.out A s₀ s W Pk env hr F R) (fun _ _ q => q.weak h) fun _ _ e => e⟩
theorem Xe.weak (h : Sub σ' σ) (r : Xe Y kd st σ' f σ₂) : Xe Y kd st σ f σ₂ := ⟨fun A s₀ s W Pk env hr F R => r.out A s₀ s W Pk env hr F (R.weak h)⟩
theorem Xe.weakEnd (h : Sub σ' σ₁) (r : Xe Y kd st σ f σ₁) : Xe Y kd st σ f σ' := ⟨fun A s₀ s W Pk env hr F R => wpAny_mono (r.out A s₀ s W Pk env hr F R) (fun _ _ q => q.weak h) fun _ _ e => e⟩
theorem Re.weak (h : Sub σ' σ) (r : Re Y kd stmts σ' f) : Re Y kd stmts σ f := let ⟨σ₂, r⟩ := r.out; ⟨σ₂, r.weak h⟩
theorem Rx.weak (h : Sub σ' σ) (r : Rx Y kd stmts σ' C v) : Rx Y kd stmts σ C v := ⟨fun A s₀ s W Pk nm sc L a cd hr F R => r.out A s₀ s W Pk nm sc L a cd hr F (R.weak h)⟩
/-- the weakened state is the given one -/
theorem Ru.cut {l r : Vars} {o : Option (Str × List V)} (h : AllHas l r) (x : Ru Y kd stmts ⟨r, o⟩ f σ₂) : Ru Y kd stmts ⟨l, o⟩ f σ₂ := x.weak (.of h)
theorem Re.cut {l r : Vars} {o : Option (Str × List V)} (h : AllHas l r) (x : Re Y kd stmts ⟨r, o⟩ f) : Re Y kd stmts ⟨l, o⟩ f := x.weak (.of h)
end
end Mine
namespace Mine
set_option maxRecDepth 100000

noncomputable def q257 : List Nat → List Nat
  | [] => []
  | [c] => if c = 34 then [] else [c]
  | c :: d :: r => if c = 34 then (if d = 34 then 34 :: q257 r else []) else c :: q257 (d :: r)
section
variable {D : Adr} {phi : Str → List V → Option V} {prog : Program} {w : World} {K : Frag} {p : Program} {loose : List Str} {mg mb : Str → Option Value} {lvl : Nat} {a b v : V}

theorem tst_lt {a b : Int} {t : Bool} (h : decide (a < b) = t) : truthV (.bool (decide (a < b))) = some t := by rw [h]; rfl
theorem S_app1 (a : List Nat) (c : Nat) (h : a.length + 1 ≤ 2 ^ 20) : binV .Add (.str (S a)) (.str (S [c])) = some (.str (S (a ++ [c]))) := b_cat (by rw [S_len, S_len]; exact h) (S_app _ _)

theorem run_257loop (ok : (sysOf D phi prog w K p loose mg mb lvl).Ok) (l : List Nat) (hl : l.length < 2 ^ 20) (h5 : 5 ≤ l.length) :
    Re (sysOf D phi prog w K p loose mg mb lvl) (kdAt 12) ((bodyAt 12).drop 5) ⟨[("resp", .str (S l)), ("dirname", .str (S [])), ("i", .int 5), ("n", .int l.length)], none⟩ (.ret (.str (S (q257 (l.drop 5))))) := by
  conv in (kdAt 12) => whnf
  conv in (List.drop 5 (bodyAt 12)) => whnf
  refine Re.while ok (fun k σ => ∃ (i : Nat) (acc : List Nat), k = l.length - i ∧ i ≤ l.length ∧ acc.length ≤ i ∧ acc ++ q257 (l.drop i) = q257 (l.drop 5) ∧ σ = ⟨[("resp", .str (S l)), ("dirname", .str (S acc)), ("i", .int i), ("n", .int l.length)], none⟩)
    (fun σ => Sub ⟨[("dirname", .str (S (q257 (l.drop 5))))], none⟩ σ) ?_ (l.length - 5) ⟨5, [], rfl, h5, by simp, by simp, rfl⟩ ?_
  · rintro k σ ⟨i, acc, rfl, hi, hacc, hq, rfl⟩
    by_cases hlt : i < l.length
    · right
      have hc : l[i]? = some l[i] := List.getElem?_eq_getElem hlt
      have hd : l.drop i = l[i] :: l.drop (i + 1) := List.drop_eq_getElem_cons hlt
      generalize l[i] = c at hc hd
      rw [hd] at hq
      have t1 : truthV (.bool (decide ((i : Int) < (l.length : Int)))) = some true := tst_lt (by simpa using hlt)
      have e1 : idxV (.str (S l)) (.int i) = some (.str (S [c])) := ix_S l i c hc (by (first | lia | omega))
      by_cases h34 : c = 34
      · subst h34
        by_cases hlt2 : i + 1 < l.length
        · have hc2 : l[i + 1]? = some l[i + 1] := List.getElem?_eq_getElem hlt2
          have hd2 : l.drop (i + 1) = l[i + 1] :: l.drop (i + 2) := List.drop_eq_getElem_cons hlt2
          generalize l[i + 1] = d at hc2 hd2
          rw [hd2] at hq
          have t2 : truthV (.bool (decide ((l.length : Int) ≤ ((i + 1 : Nat) : Int)))) = some false := by
            rw [decide_eq_false (by (first | lia | omega))]; rfl
          have e2 : idxV (.str (S l)) (.int ((i + 1 : Nat) : Int)) = some (.str (S [d])) := ix_S l (i + 1) d hc2 (by (first | lia | omega))
          by_cases hd34 : d = 34
          · subst hd34
            have hq' : acc ++ (34 :: q257 (l.drop (i + 2))) = q257 (l.drop 5) := by rw [← hq]; conv => rhs; unfold q257
                                                                                    simp
            refine ⟨9, ⟨[("resp", .str (S l)), ("dirname", .str (S (acc ++ [34]))), ("i", .int ((i + 2 : Nat) : Int)), ("n", .int l.length)], none⟩, t_val rfl (r_cmp rfl rfl (r_name rfl) (r_name rfl) rfl) t1, .inl ⟨?_, l.length - (i + 2), by (first | lia | omega), i + 2, acc ++ [34], rfl, by (first | lia | omega), by simp; (first | lia | omega), ?_, rfl⟩⟩
            · refine Ru.weakEnd (σ₁ := ⟨[("resp", .str (S l)), ("dirname", .str (S (acc ++ [34]))), ("i", .int ((i + 2 : Nat) : Int)), ("n", .int l.length), ("c", .str (S [34]))], none⟩) (.of (.cons rfl (.cons rfl (.cons rfl (.cons rfl .nil))))) ?_
              refine Ru.step (Xe.assign ok (n := 9) (r_idx (r_name rfl) (r_name rfl) e1 rfl rfl) rfl rfl) ?_
              refine Ru.step (Xe.assign ok (n := 9) (v := .int ((i + 1 : Nat) : Int)) (r_bin (r_name rfl) r_int rfl) rfl rfl) ?_
              refine Ru.step (σ₁ := ⟨[("resp", .str (S l)), ("dirname", .str (S acc)), ("i", .int ((i + 2 : Nat) : Int)), ("n", .int l.length), ("c", .str (S [34]))], none⟩) (Xe.ite ok (n := 9) (b := true) (t_val rfl (r_cmp rfl rfl (r_name rfl) (r_str (by decide)) rfl) rfl) ?_) ?_
              rotate_left
              · exact Ru.step (Xe.assign ok (n := 9) (r_bin (r_name rfl) (r_name rfl) (S_app1 acc 34 (by (first | lia | omega)))) rfl rfl) Ru.nil
              · refine Ru.step (Xe.ite ok (n := 9) (b := false) (t_bool (b_or_f (t_val rfl (r_cmp rfl rfl (r_name rfl) (r_name rfl) rfl) t2) (b_or_f (t_val rfl (r_cmp rfl rfl (r_idx (r_name rfl) (r_name rfl) e2 rfl rfl) (r_str (by decide)) rfl) rfl) b_or_nil))) Ru.nil) ?_
                exact Ru.step (Xe.assign ok (n := 9) (v := .int ((i + 2 : Nat) : Int)) (r_bin (r_name rfl) r_int rfl) rfl rfl) Ru.nil
            · rw [List.append_assoc]; exact hq'
          · have hq' : acc = q257 (l.drop 5) := by
              rw [← hq]; conv => rhs; unfold q257
              simp [hd34]
            have ne : (S [d] != ("\"" : Str)) = true := by
              rw [bne_iff_ne, show ("\"" : Str) = S [34] from rfl]
              intro h; have := S_inj.mp h; simp at this; exact hd34 this
            refine ⟨9, ⟨[("resp", .str (S l)), ("dirname", .str (S acc)), ("i", .int ((i + 1 : Nat) : Int)), ("n", .int l.length), ("c", .str (S [34]))], none⟩, t_val rfl (r_cmp rfl rfl (r_name rfl) (r_name rfl) rfl) t1, .inr ⟨?_, ?_⟩⟩
            · refine Ru.step (Xe.assign ok (n := 9) (r_idx (r_name rfl) (r_name rfl) e1 rfl rfl) rfl rfl) ?_
              refine Ru.step (Xe.assign ok (n := 9) (v := .int ((i + 1 : Nat) : Int)) (r_bin (r_name rfl) r_int rfl) rfl rfl) ?_
              refine Ru.last (Xe.ite ok (n := 9) (b := true) (t_val rfl (r_cmp rfl rfl (r_name rfl) (r_str (by decide)) rfl) rfl) ?_) rfl
              refine Ru.last (Xe.ite ok (n := 9) (b := true) (t_bool (b_or_f (t_val rfl (r_cmp rfl rfl (r_name rfl) (r_name rfl) rfl) t2) (b_or_t (t_val rfl (r_cmp rfl rfl (r_idx (r_name rfl) (r_name rfl) e2 rfl rfl) (r_str (by decide)) rfl) (by rw [ne]; rfl))))) ?_) rfl
              exact Ru.last Xe.brk rfl
            · rw [← hq']; exact .of (.cons rfl .nil)
        · have hq' : acc = q257 (l.drop 5) := by
            rw [List.drop_eq_nil_of_le (by (first | lia | omega))] at hq
            rw [← hq]; simp [q257]
          have t2 : truthV (.bool (decide ((l.length : Int) ≤ ((i + 1 : Nat) : Int)))) = some true := by
            rw [decide_eq_true (by (first | lia | omega))]; rfl
          refine ⟨9, ⟨[("resp", .str (S l)), ("dirname", .str (S acc)), ("i", .int ((i + 1 : Nat) : Int)), ("n", .int l.length), ("c", .str (S [34]))], none⟩, t_val rfl (r_cmp rfl rfl (r_name rfl) (r_name rfl) rfl) t1, .inr ⟨?_, ?_⟩⟩
          · refine Ru.step (Xe.assign ok (n := 9) (r_idx (r_name rfl) (r_name rfl) e1 rfl rfl) rfl rfl) ?_
            refine Ru.step (Xe.assign ok (n := 9) (v := .int ((i + 1 : Nat) : Int)) (r_bin (r_name rfl) r_int rfl) rfl rfl) ?_
            refine Ru.last (Xe.ite ok (n := 9) (b := true) (t_val rfl (r_cmp rfl rfl (r_name rfl) (r_str (by decide)) rfl) rfl) ?_) rfl
            refine Ru.last (Xe.ite ok (n := 9) (b := true) (t_bool (b_or_t (t_val rfl (r_cmp rfl rfl (r_name rfl) (r_name rfl) rfl) t2))) ?_) rfl
            exact Ru.last Xe.brk rfl
          · rw [← hq']; exact .of (.cons rfl .nil)
      · have hq' : acc ++ (c :: q257 (l.drop (i + 1))) = q257 (l.drop 5) := by
          rw [← hq]
          cases l.drop (i + 1) with
          | nil => simp [q257, h34]
          | cons d r => conv => rhs; unfold q257
                        simp [h34]
        have ne : (S [c] == ("\"" : Str)) = false := by
          rw [beq_eq_false_iff_ne, show ("\"" : Str) = S [34] from rfl]
          intro h; have := S_inj.mp h; simp at this; exact h34 this
        refine ⟨9, ⟨[("resp", .str (S l)), ("dirname", .str (S (acc ++ [c]))), ("i", .int ((i + 1 : Nat) : Int)), ("n", .int l.length)], none⟩, t_val rfl (r_cmp rfl rfl (r_name rfl) (r_name rfl) rfl) t1, .inl ⟨?_, l.length - (i + 1), by (first | lia | omega), i + 1, acc ++ [c], rfl, by (first | lia | omega), by simp; (first | lia | omega), ?_, rfl⟩⟩
        · refine Ru.weakEnd (σ₁ := ⟨[("resp", .str (S l)), ("dirname", .str (S (acc ++ [c]))), ("i", .int ((i + 1 : Nat) : Int)), ("n", .int l.length), ("c", .str (S [c]))], none⟩) (.of (.cons rfl (.cons rfl (.cons rfl (.cons rfl .nil))))) ?_
          refine Ru.step (Xe.assign ok (n := 9) (r_idx (r_name rfl) (r_name rfl) e1 rfl rfl) rfl rfl) ?_
          refine Ru.step (Xe.assign ok (n := 9) (v := .int ((i + 1 : Nat) : Int)) (r_bin (r_name rfl) r_int rfl) rfl rfl) ?_
          refine Ru.step (Xe.ite ok (n := 9) (b := false) (t_val rfl (r_cmp rfl rfl (r_name rfl) (r_str (by decide)) rfl) (by rw [ne]; rfl)) Ru.nil) ?_
          exact Ru.step (Xe.assign ok (n := 9) (r_bin (r_name rfl) (r_name rfl) (S_app1 acc c (by (first | lia | omega)))) rfl rfl) Ru.nil
        · rw [List.append_assoc]; exact hq'
    · left
      have hi' : i = l.length := by (first | lia | omega)
      subst hi'
      rw [List.drop_length] at hq
      have : acc = q257 (l.drop 5) := by rw [← hq]; simp [q257]
      refine ⟨9, t_val rfl (r_cmp rfl rfl (r_name rfl) (r_name rfl) rfl) (tst_lt (by simp)), ?_⟩
      rw [← this]
      exact .of (.cons rfl .nil)
  · intro σ h
    exact Re.weak h (Re.last (Xe.ret ok (n := 3) (r_name rfl)) rfl)
end
end Mine
namespace Mine
set_option maxRecDepth 100000

noncomputable def f257 (l : List Nat) : List Nat := if (l.drop 3).take 2 = [32, 34] then q257 (l.drop 5) else []

section
variable {D : Adr} {phi : Str → List V → Option V} {prog : Program} {w : World} {K : Frag} {p : Program} {loose : List Str} {mg mb : Str → Option Value} {lvl : Nat} {a b v : V}

theorem ne_S {a b : List Nat} (h : a ≠ b) : (S a != S b) = true := by
  rw [bne_iff_ne]; intro e; exact h (S_inj.mp e)
theorem eq_S {a b : List Nat} (h : a = b) : (S a != S b) = false := by subst h; simp
theorem t_ne {a b : List Nat} (h : a ≠ b) : truthV (.bool (S a != S b)) = some true := by rw [ne_S h]; rfl
theorem t_nn {a b : List Nat} (h : a = b) : truthV (.bool (S a != S b)) = some false := by rw [eq_S h]; rfl
theorem run_257 (ok : (sysOf D phi prog w K p loose mg mb lvl).Ok) (l : List Nat) (hl : l.length < 2 ^ 20) (h3 : l.take 3 = [50, 53, 55]) :
    Re (sysOf D phi prog w K p loose mg mb lvl) (kdAt 12) (bodyAt 12) ⟨[("resp", .str (S l))], none⟩ (.ret (.str (S (f257 l)))) := by
  have rest := run_257loop ok l hl
  conv at rest in (kdAt 12) => whnf
  conv at rest in (List.drop 5 (bodyAt 12)) => whnf
  conv in (kdAt 12) => whnf
  conv in (bodyAt 12) => whnf
  have e3 : sliceV (.str (S l)) none (some ((3 : Nat) : Int)) none = some (.str (S (l.take 3))) := sl_take l 3
  refine Re.step (Xe.ite ok (n := 9) (b := false) (t_val rfl (r_cmp rfl rfl (r_slice (r_name rfl) p_none (p_some r_int) p_none rfl rfl rfl e3 rfl) (r_str (by decide)) rfl) (t_nn h3)) Ru.nil) ?_
  have hl3 : 3 ≤ l.length := by
    have := congrArg List.length h3
    rw [List.length_take] at this; simp at this; (first | lia | omega)
  have e5 : sliceV (.str (S l)) (some ((3 : Nat) : Int)) (some ((5 : Nat) : Int)) none = some (.str (S ((l.drop 3).take 2))) := sl_mid2 l 3 5 hl3
  unfold f257
  by_cases h : (l.drop 3).take 2 = [32, 34]
  · rw [if_pos h]
    have hl5 : 5 ≤ l.length := by
      have := congrArg List.length h
      rw [List.length_take, List.length_drop] at this; simp at this; (first | lia | omega)
    refine Re.step (Xe.ite ok (n := 9) (b := false) (t_val rfl (r_cmp rfl rfl (r_slice (r_name rfl) (p_some r_int) (p_some r_int) p_none rfl rfl rfl e5 rfl) (r_str (by decide)) rfl) (t_nn h)) Ru.nil) ?_
    refine Re.step (Xe.assign ok (n := 9) (r_str (by decide)) rfl rfl) ?_
    refine Re.step (Xe.assign ok (n := 9) r_int rfl rfl) ?_
    refine Re.step (Xe.assign ok (n := 9) (v := .int l.length) (r_bi rfl rfl rfl (by decide) (by decide) (b := .builtin "len") rfl (a_cons (r_name rfl) a_nil rfl) (show some (V.int ((S l).length : Int)) = _ by rw [S_len])) rfl rfl) ?_
    exact rest hl5
  · rw [if_neg h]
    exact Re.last (Xe.ite ok (n := 9) (b := true) (t_val rfl (r_cmp rfl rfl (r_slice (r_name rfl) (p_some r_int) (p_some r_int) p_none rfl rfl rfl e5 rfl) (r_str (by decide)) rfl) (t_ne h)) (Ru.last (Xe.ret ok (n := 9) (r_str (by decide))) rfl)) rfl
theorem rx_257 {C : Addr} {bm : List Value} {B newId initId : String} (ok : (sysOf D phi prog w K p loose mg mb lvl).Ok) (l : List Nat) (h3 : l.take 3 ≠ [50, 53, 55])
    (hx : nsIn K mainGlobals "error_reply" = some (some (.ref C))) (hq : excIn K C bm newId = true) (FB : ExcBaseFacts B newId initId bm) :
    Rx (sysOf D phi prog w K p loose mg mb lvl) (kdAt 12) (bodyAt 12) ⟨[("resp", .str (S l))], none⟩ C (.str (S l)) := by
  conv in (kdAt 12) => whnf
  conv in (bodyAt 12) => whnf
  have e3 : sliceV (.str (S l)) none (some ((3 : Nat) : Int)) none = some (.str (S (l.take 3))) := sl_take l 3
  refine Rx.ite ok (n := 9) (b := true) (t_val rfl (r_cmp rfl rfl (r_slice (r_name rfl) p_none (p_some r_int) p_none rfl rfl rfl e3 rfl) (r_str (by decide)) rfl) (t_ne h3)) ?_
  exact Rx.raise ok (n := 9) (r_name rfl) rfl rfl hx hq FB
end
end Mine
namespace Mine
set_option maxRecDepth 100000

inductive R229 where
  | port (i : Int) | reply | proto | unknown
noncomputable def R229.isPort (i : Int) : R229 → Bool
  | .port j => j == i
  | _ => false
noncomputable def R229.isReply : R229 → Bool
  | .reply => true
  | _ => false
noncomputable def R229.isProto : R229 → Bool
  | .proto => true
  | _ => false
theorem R229.port_of {i : Int} : ∀ {r : R229}, r.isPort i = true → r = .port i
  | .port j, h => by simp only [isPort, beq_iff_eq] at h; rw [h]
theorem R229.reply_of : ∀ {r : R229}, r.isReply = true → r = .reply
  | .reply, _ => rfl
theorem R229.proto_of : ∀ {r : R229}, r.isProto = true → r = .proto
  | .proto, _ => rfl

noncomputable def p229 (x : Str) : R229 :=
  match sliceV (.str x) none (some 3) none with
  | some (.str p) => if p != "229" then .reply else
    if Txt.find x "(" < 0 then .proto else
    if Txt.find3 x ")" (Txt.find x "(" + 1) < 0 then .proto else
    match idxV (.str x) (.int (Txt.find x "(" + 1)), idxV (.str x) (.int (Txt.find3 x ")" (Txt.find x "(" + 1) - 1)) with
    | some (.str c), some (.str d) => if c != d then .proto else
      match sliceV (.str x) (some (Txt.find x "(" + 1)) (some (Txt.find3 x ")" (Txt.find x "(" + 1))) none with
      | some (.str m) => match methV "split" (.str m) [.str c] with
        | some (.list ps) => if (ps.length : Int) != 5 then .proto else
          match idxV (.list ps) (.int 3) with
          | some (.str q) => match builtinV "int" [.str q] with
            | some (.int i) => .port i
            | _ => .unknown
          | _ => .unknown
        | _ => .unknown
      | _ => .unknown
    | _, _ => .unknown
  | _ => .unknown

section
variable {D : Adr} {phi : Str → List V → Option V} {prog : Program} {w : World} {K : Frag} {p : Program} {loose : List Str} {mg mb : Str → Option Value} {lvl : Nat} {a b v : V}

theorem tb {b t : Bool} (h : b = t) : truthV (.bool b) = some t := by rw [h]; rfl
theorem td {P : Prop} [Decidable P] (h : P) : truthV (.bool (decide P)) = some true := tb (decide_eq_true h)
theorem tn {P : Prop} [Decidable P] (h : ¬ P) : truthV (.bool (decide P)) = some false := tb (decide_eq_false h)
theorem nt {b : Bool} (h : ¬ b = true) : b = false := by cases b <;> simp_all

theorem run_229 (ok : (sysOf D phi prog w K p loose mg mb lvl).Ok) {x : Str} {i : Int} (h : p229 x = .port i) :
    Re (sysOf D phi prog w K p loose mg mb lvl) (kdAt 11) (bodyAt 11) ⟨[("resp", .str x), ("peer", .tup [.str "here", .int 7])], none⟩ (.ret (.tup [.str "here", .int i])) := by
  conv in (kdAt 11) => whnf
  conv in (bodyAt 11) => whnf
  unfold p229 at h
  split at h <;> first | contradiction | skip
  rename_i pr hp
  split at h <;> first | contradiction | skip
  rename_i h1
  split at h <;> first | contradiction | skip
  rename_i h2
  split at h <;> first | contradiction | skip
  rename_i h3
  split at h <;> first | contradiction | skip
  rename_i c d hc hd
  split at h <;> first | contradiction | skip
  rename_i h4
  split at h <;> first | contradiction | skip
  rename_i m hm
  split at h <;> first | contradiction | skip
  rename_i ps hps
  split at h <;> first | contradiction | skip
  rename_i h5
  split at h <;> first | contradiction | skip
  rename_i q hq
  split at h <;> first | contradiction | skip
  rename_i i' hi
  cases h
  refine Re.step (Xe.ite ok (n := 9) (b := false) (t_val rfl (r_cmp rfl rfl (r_slice (r_name rfl) p_none (p_some r_int) p_none rfl rfl rfl hp rfl) (r_str (by decide)) rfl) (tb (nt h1))) Ru.nil) ?_
  refine Re.step (Xe.assign ok (n := 9) (v := .int (Txt.find x "(")) (r_meth rfl (by decide) rfl rfl (r_name rfl) (a_cons (r_str (by decide)) a_nil rfl) rfl) rfl rfl) ?_
  refine Re.step (Xe.ite ok (n := 9) (b := false) (t_val rfl (r_cmp rfl rfl (r_name rfl) r_int rfl) (tn h2)) Ru.nil) ?_
  refine Re.step (Xe.assign ok (n := 9) (v := .int (Txt.find3 x ")" (Txt.find x "(" + 1))) (r_meth rfl (by decide) rfl rfl (r_name rfl) (a_cons (r_str (by decide)) (a_cons (r_bin (r_name rfl) r_int rfl) a_nil rfl) rfl) rfl) rfl rfl) ?_
  refine Re.step (Xe.ite ok (n := 9) (b := false) (t_val rfl (r_cmp rfl rfl (r_name rfl) r_int rfl) (tn h3)) Ru.nil) ?_
  refine Re.step (Xe.ite ok (n := 9) (b := false) (t_val rfl (r_cmp rfl rfl (r_idx (r_name rfl) (r_bin (r_name rfl) r_int rfl) hc rfl rfl) (r_idx (r_name rfl) (r_bin (r_name rfl) r_int rfl) hd rfl rfl) rfl) (tb (nt h4))) Ru.nil) ?_
  refine Re.step (Xe.assign ok (n := 9) (v := .list ps) (r_meth rfl (by decide) rfl rfl (r_slice (r_name rfl) (p_some (r_bin (r_name rfl) r_int rfl)) (p_some (r_name rfl)) p_none rfl rfl rfl hm rfl) (a_cons (r_idx (r_name rfl) (r_bin (r_name rfl) r_int rfl) hc rfl rfl) a_nil rfl) hps) rfl rfl) ?_
  refine Re.step (Xe.ite ok (n := 9) (b := false) (t_val rfl (r_cmp rfl rfl (r_bi rfl rfl rfl (by decide) (by decide) (b := .builtin "len") rfl (a_cons (r_name rfl) a_nil rfl) rfl) r_int rfl) (tb (nt h5))) Ru.nil) ?_
  refine Re.step (Xe.assign ok (n := 9) (v := .str "here") (r_idx (r_name rfl) r_int rfl rfl rfl) rfl rfl) ?_
  refine Re.step (Xe.assign ok (n := 9) (v := .int i) (r_bi rfl rfl rfl (by decide) (by decide) (b := .type "int") rfl (a_cons (r_idx (r_name rfl) r_int hq rfl rfl) a_nil rfl) hi) rfl rfl) ?_
  exact Re.last (Xe.ret ok (n := 9) (r_tup (a_cons (r_name rfl) (a_cons (r_name rfl) a_nil rfl) rfl) (by decide))) rfl

theorem rx_229r {C : Addr} {bm : List Value} {B newId initId : String} (ok : (sysOf D phi prog w K p loose mg mb lvl).Ok) {x : Str} (h : p229 x = .reply)
    (hx : nsIn K mainGlobals "error_reply" = some (some (.ref C))) (hq : excIn K C bm newId = true) (FB : ExcBaseFacts B newId initId bm) :
    Rx (sysOf D phi prog w K p loose mg mb lvl) (kdAt 11) (bodyAt 11) ⟨[("resp", .str x), ("peer", .tup [.str "here", .int 7])], none⟩ C (.str x) := by
  conv in (kdAt 11) => whnf
  conv in (bodyAt 11) => whnf
  unfold p229 at h
  split at h <;> first | contradiction | skip
  rename_i pr hp
  split at h
  · rename_i h1
    refine Rx.ite ok (n := 9) (b := true) (t_val rfl (r_cmp rfl rfl (r_slice (r_name rfl) p_none (p_some r_int) p_none rfl rfl rfl hp rfl) (r_str (by decide)) rfl) (tb h1)) ?_
    exact Rx.raise ok (n := 9) (r_name rfl) rfl rfl hx hq FB
  · exfalso
    repeat' (first | contradiction | split at h)

theorem rx_229p {C : Addr} {bm : List Value} {B newId initId : String} (ok : (sysOf D phi prog w K p loose mg mb lvl).Ok) {x : Str} (h : p229 x = .proto)
    (hx : nsIn K mainGlobals "error_proto" = some (some (.ref C))) (hq : excIn K C bm newId = true) (FB : ExcBaseFacts B newId initId bm) :
    Rx (sysOf D phi prog w K p loose mg mb lvl) (kdAt 11) (bodyAt 11) ⟨[("resp", .str x), ("peer", .tup [.str "here", .int 7])], none⟩ C (.str x) := by
  conv in (kdAt 11) => whnf
  conv in (bodyAt 11) => whnf
  unfold p229 at h
  split at h <;> first | contradiction | skip
  rename_i pr hp
  split at h <;> first | contradiction | skip
  rename_i h1
  refine Rx.step (Xe.ite ok (n := 9) (b := false) (t_val rfl (r_cmp rfl rfl (r_slice (r_name rfl) p_none (p_some r_int) p_none rfl rfl rfl hp rfl) (r_str (by decide)) rfl) (tb (nt h1))) Ru.nil) ?_
  refine Rx.step (Xe.assign ok (n := 9) (v := .int (Txt.find x "(")) (r_meth rfl (by decide) rfl rfl (r_name rfl) (a_cons (r_str (by decide)) a_nil rfl) rfl) rfl rfl) ?_
  split at h
  · rename_i h2
    refine Rx.ite ok (n := 9) (b := true) (t_val rfl (r_cmp rfl rfl (r_name rfl) r_int rfl) (td h2)) ?_
    exact Rx.raise ok (n := 9) (r_name rfl) rfl rfl hx hq FB
  rename_i h2
  refine Rx.step (Xe.ite ok (n := 9) (b := false) (t_val rfl (r_cmp rfl rfl (r_name rfl) r_int rfl) (tn h2)) Ru.nil) ?_
  refine Rx.step (Xe.assign ok (n := 9) (v := .int (Txt.find3 x ")" (Txt.find x "(" + 1))) (r_meth rfl (by decide) rfl rfl (r_name rfl) (a_cons (r_str (by decide)) (a_cons (r_bin (r_name rfl) r_int rfl) a_nil rfl) rfl) rfl) rfl rfl) ?_
  split at h
  · rename_i h3
    refine Rx.ite ok (n := 9) (b := true) (t_val rfl (r_cmp rfl rfl (r_name rfl) r_int rfl) (td h3)) ?_
    exact Rx.raise ok (n := 9) (r_name rfl) rfl rfl hx hq FB
  rename_i h3
  refine Rx.step (Xe.ite ok (n := 9) (b := false) (t_val rfl (r_cmp rfl rfl (r_name rfl) r_int rfl) (tn h3)) Ru.nil) ?_
  split at h <;> first | contradiction | skip
  rename_i c d hc hd
  split at h
  · rename_i h4
    refine Rx.ite ok (n := 9) (b := true) (t_val rfl (r_cmp rfl rfl (r_idx (r_name rfl) (r_bin (r_name rfl) r_int rfl) hc rfl rfl) (r_idx (r_name rfl) (r_bin (r_name rfl) r_int rfl) hd rfl rfl) rfl) (tb h4)) ?_
    exact Rx.raise ok (n := 9) (r_name rfl) rfl rfl hx hq FB
  rename_i h4
  refine Rx.step (Xe.ite ok (n := 9) (b := false) (t_val rfl (r_cmp rfl rfl (r_idx (r_name rfl) (r_bin (r_name rfl) r_int rfl) hc rfl rfl) (r_idx (r_name rfl) (r_bin (r_name rfl) r_int rfl) hd rfl rfl) rfl) (tb (nt h4))) Ru.nil) ?_
  split at h <;> first | contradiction | skip
  rename_i m hm
  split at h <;> first | contradiction | skip
  rename_i ps hps
  refine Rx.step (Xe.assign ok (n := 9) (v := .list ps) (r_meth rfl (by decide) rfl rfl (r_slice (r_name rfl) (p_some (r_bin (r_name rfl) r_int rfl)) (p_some (r_name rfl)) p_none rfl rfl rfl hm rfl) (a_cons (r_idx (r_name rfl) (r_bin (r_name rfl) r_int rfl) hc rfl rfl) a_nil rfl) hps) rfl rfl) ?_
  split at h
  · rename_i h5
    refine Rx.ite ok (n := 9) (b := true) (t_val rfl (r_cmp rfl rfl (r_bi rfl rfl rfl (by decide) (by decide) (b := .builtin "len") rfl (a_cons (r_name rfl) a_nil rfl) rfl) r_int rfl) (tb h5)) ?_
    exact Rx.raise ok (n := 9) (r_name rfl) rfl rfl hx hq FB
  · exfalso
    repeat' (first | contradiction | split at h)
end
end Mine
namespace Mine
set_option maxRecDepth 100000

/-- what the small defs answer -/
structure Phi1 (phi : Str → List V → Option V) : Prop where
  add : ∀ {a b v}, binV .Add a b = some v → phi "add" [a, b] = some v
  and_ : ∀ {a b v}, binV .BitAnd a b = some v → phi "and_" [a, b] = some v
  inv : ∀ {a v}, unV .Invert a = some v → phi "inv" [a] = some v
  mul : ∀ {a b v}, binV .Mult a b = some v → phi "mul" [a, b] = some v
  sub : ∀ {a b v}, binV .Sub a b = some v → phi "sub" [a, b] = some v
  xor : ∀ {a b v}, binV .BitXor a b = some v → phi "xor" [a, b] = some v
  term : ∀ {s : Int}, phi "ISTERMINAL" [.int s] = some (.bool (decide (s < 256)))
  nont : ∀ {s : Int}, phi "ISNONTERMINAL" [.int s] = some (.bool (decide (256 ≤ s)))
  eof : ∀ {s : Int}, phi "ISEOF" [.int s] = some (.bool (s == 0))
  subst : ∀ {a b : Str}, (decide (a.length ≤ 1000) && decide (b.length ≤ 1000) && decide ((Txt.lower a).length ≤ 2 ^ 20) && decide ((Txt.lower b).length ≤ 2 ^ 20)) = true → phi "_substitution_cost" [.str a, .str b] = some (.int (substF a b))
  col : ∀ {x : Int}, phi "_law_column" [.int x] = some (.int (colF x))
  word : ∀ {x : Int} {q : Nat}, q ≤ 7 → phi "_law_word" [.int x, .int q] = some (.str (wordF x q))
  syms : ∀ {l : List Nat}, l.length < 2 ^ 20 → phi "_law_symbols" [.str (S l)] = some (.list ((symL l).map .int ++ [.int 0]))
  p257 : ∀ {l : List Nat}, l.length < 2 ^ 20 → l.take 3 = [50, 53, 55] → phi "parse257" [.str (S l)] = some (.str (S (f257 l)))
  p229 : ∀ {x : Str} {i : Int}, p229 x = .port i → phi "parse229" [.str x, .tup [.str "here", .int 7]] = some (.tup [.str "here", .int i])

structure VSt where
  values : List Int
  value : Int
  product : Int
  turned : Bool
noncomputable def colAt (cols : List Int) (s : Int) : Int := cols.getD (s - 256).toNat 0
noncomputable def vStep (cols : List Int) (t : VSt) (s : Int) : VSt :=
  if 256 ≤ s then ⟨t.values, t.value, Builtin.bitAnd t.product (if t.turned = true then Builtin.bitNot (colAt cols s) else colAt cols s), false⟩
  else if s = 31 then ⟨t.values, t.value, t.product, true⟩
  else if s = 19 then t
  else if s = 32 then ⟨t.values, Builtin.bitXor t.value t.product, -1, t.turned⟩
  else ⟨t.values ++ [Builtin.bitAnd (Builtin.bitXor t.value t.product) 4294967295], 0, -1, t.turned⟩
theorem vStep_len (cols : List Int) (t : VSt) (s : Int) : (vStep cols t s).values.length ≤ t.values.length + 1 := by
  unfold vStep
  repeat' split
  all_goals simp

section
variable {D : Adr} {phi : Str → List V → Option V} {prog : Program} {w : World} {K : Frag} {p : Program} {loose : List Str} {mg mb : Str → Option Value} {lvl : Nat} {a b v : V}

noncomputable def vState (cols : List Int) (t : VSt) : St := ⟨[("columns", .list (cols.map .int)), ("value", .int t.value), ("product", .int t.product), ("turned", .bool t.turned)], some ("values", t.values.map .int)⟩

theorem ints_scalar (l : List Int) : (l.map V.int).all scalarV = true := by simp [List.all_map, scalarV]
theorem colAt_idx {cols : List Int} {s : Int} (h0 : 256 ≤ s) (h1 : s - 256 < cols.length) (h2 : s < 2 ^ 40) : idxV (.list (cols.map .int)) (.int (s - 256)) = some (.int (colAt cols s)) := by
  simp only [idxV]
  rw [if_pos (by (first | lia | omega)), List.getElem?_map]
  unfold colAt
  have : (s - 256).toNat < cols.length := by (first | lia | omega)
  rw [List.getElem?_eq_getElem this]
  simp [this]

theorem run_values (ok : (sysOf D phi prog w K p loose mg mb lvl).Ok) (hp : Phi1 phi) (row cols : List Int) (hrow : ∀ s ∈ row, 256 ≤ s → s - 256 < cols.length ∧ s < 2 ^ 40) (hl : row.length < 2 ^ 20) :
    Re (sysOf D phi prog w K p loose mg mb lvl) (kdAt 77) (bodyAt 77) ⟨[("row", .list (row.map .int)), ("columns", .list (cols.map .int))], none⟩ (.ret (.list ((row.foldl (vStep cols) ⟨[], 0, -1, false⟩).values.map .int))) := by
  conv in (kdAt 77) => whnf
  conv in (bodyAt 77) => whnf
  refine Re.step (Xe.ownNil rfl) ?_
  refine Re.step (Xe.assign ok (n := 9) r_int rfl rfl) ?_
  refine Re.step (Xe.assign ok (n := 9) (v := .int (-1)) (r_un r_int rfl) rfl rfl) ?_
  refine Re.step (Xe.assign ok (n := 9) r_bool rfl rfl) ?_
  refine Re.for ok (n := 9) (xs := row.map .int) (i_val rfl (r_name rfl) rfl) rfl rfl (fun vs σ => ∃ (ss : List Int) (t : VSt), vs = ss.map .int ∧ Sub (vState cols t) σ ∧ t.values.length + ss.length ≤ row.length ∧ (∀ s ∈ ss, s ∈ row) ∧ ss.foldl (vStep cols) t = row.foldl (vStep cols) ⟨[], 0, -1, false⟩)
    ?_ ⟨row, ⟨[], 0, -1, false⟩, rfl, .of (.cons rfl (.cons rfl (.cons rfl (.cons rfl .nil)))), by simp, fun _ h => h, rfl⟩ ?_
  · rintro v vs σ ⟨ss, t, hv, hs, hlen, hin, hf⟩
    obtain ⟨s, ss, rfl⟩ : ∃ s ss', ss = s :: ss' := by cases ss with | nil => cases hv | cons s ss => exact ⟨s, ss, rfl⟩
    cases hv
    refine ⟨vState cols (vStep cols t s), ?_, ss, vStep cols t s, rfl, ⟨rfl, fun _ _ h => h⟩, by have := vStep_len cols t s; simp at hlen; (first | lia | omega), fun s hs => hin s (List.mem_cons_of_mem _ hs), hf⟩
    have hs' : Sub ((vState cols t).set "symbol" (.int s)) (σ.set "symbol" (.int s)) := by
      refine ⟨?_, fun x u e => ?_⟩
      · show (match (vState cols t).own with | some (y, xs) => if (y == ("symbol" : Str)) = true then none else some (y, xs) | none => none) = (match σ.own with | some (y, xs) => if (y == ("symbol" : Str)) = true then none else some (y, xs) | none => none)
        rw [hs.own]
      · unfold St.set at e ⊢
        rw [setV_lookup] at e ⊢
        split
        · rename_i h; rw [if_pos h] at e; exact e
        · rename_i h; rw [if_neg h] at e; exact hs.vars x u e
    refine Ru.weak hs' ?_
    clear hs hs' hf
    obtain ⟨vals, value, product, turned⟩ := t
    have drop : ∀ {o : Option (Str × List V)} {a b c : V}, Sub ⟨[("columns", .list (cols.map .int)), ("value", a), ("product", b), ("turned", c)], o⟩ ⟨[("columns", .list (cols.map .int)), ("value", a), ("product", b), ("turned", c), ("symbol", .int s)], o⟩ :=
      .of (.cons rfl (.cons rfl (.cons rfl (.cons rfl .nil))))
    unfold vStep
    by_cases h256 : 256 ≤ s
    · obtain ⟨hi, hb⟩ := hrow s (hin s List.mem_cons_self) h256
      have ei := colAt_idx h256 hi hb
      rw [if_pos h256]
      refine Ru.weakEnd drop ?_
      refine Ru.step (Xe.ite ok (n := 9) (b := true) (t_val rfl (r_fn rfl rfl rfl (a_cons (r_name rfl) a_nil rfl) hp.nont) (td h256)) ?_) Ru.nil
      refine Ru.step (Xe.assign ok (n := 12) (v := .int (Builtin.bitAnd product (if turned = true then Builtin.bitNot (colAt cols s) else colAt cols s))) (r_fn rfl rfl rfl (a_cons (r_name rfl) (a_cons (v := .int (if turned = true then Builtin.bitNot (colAt cols s) else colAt cols s)) (r_if (c := turned) (t_val rfl (r_name rfl) rfl) ?_) a_nil rfl) rfl) (hp.and_ rfl)) rfl rfl) ?_
      · cases turned
        · exact r_idx (r_name rfl) (r_bin (r_name rfl) r_int rfl) ei rfl rfl
        · exact r_fn rfl rfl rfl (a_cons (r_idx (r_name rfl) (r_bin (r_name rfl) r_int rfl) ei rfl rfl) a_nil rfl) (hp.inv rfl)
      · exact Ru.step (Xe.assign ok (n := 9) r_bool rfl rfl) Ru.nil
    · rw [if_neg h256]
      by_cases h31 : s = 31
      · subst h31
        rw [if_pos rfl]
        refine Ru.weakEnd drop ?_
        refine Ru.step (Xe.ite ok (n := 9) (b := false) (t_val rfl (r_fn rfl rfl rfl (a_cons (r_name rfl) a_nil rfl) hp.nont) (tn h256)) ?_) Ru.nil
        refine Ru.step (Xe.ite ok (n := 9) (b := true) (t_val rfl (r_cmp rfl rfl (r_name rfl) r_int rfl) rfl) ?_) Ru.nil
        exact Ru.step (Xe.assign ok (n := 9) r_bool rfl rfl) Ru.nil
      · rw [if_neg h31]
        have t31 : truthV (.bool (s == 31)) = some false := tb (by simpa using h31)
        by_cases h19 : s = 19
        · subst h19
          rw [if_pos rfl]
          refine Ru.weakEnd drop ?_
          refine Ru.step (Xe.ite ok (n := 9) (b := false) (t_val rfl (r_fn rfl rfl rfl (a_cons (r_name rfl) a_nil rfl) hp.nont) (tn h256)) ?_) Ru.nil
          refine Ru.step (Xe.ite ok (n := 9) (b := false) (t_val rfl (r_cmp rfl rfl (r_name rfl) r_int rfl) t31) ?_) Ru.nil
          refine Ru.step (Xe.ite ok (n := 9) (b := false) (t_val rfl (r_cmp rfl rfl (r_name rfl) r_int rfl) rfl) ?_) Ru.nil
          exact Ru.nil
        · rw [if_neg h19]
          have t19 : truthV (.bool (s != 19)) = some true := tb (by simpa using h19)
          by_cases h32 : s = 32
          · subst h32
            rw [if_pos rfl]
            refine Ru.weakEnd drop ?_
            refine Ru.step (Xe.ite ok (n := 9) (b := false) (t_val rfl (r_fn rfl rfl rfl (a_cons (r_name rfl) a_nil rfl) hp.nont) (tn h256)) ?_) Ru.nil
            refine Ru.step (Xe.ite ok (n := 9) (b := false) (t_val rfl (r_cmp rfl rfl (r_name rfl) r_int rfl) t31) ?_) Ru.nil
            refine Ru.step (Xe.ite ok (n := 9) (b := true) (t_val rfl (r_cmp rfl rfl (r_name rfl) r_int rfl) t19) ?_) Ru.nil
            refine Ru.step (Xe.assign ok (n := 9) (v := .int (Builtin.bitXor value product)) (r_fn rfl rfl rfl (a_cons (r_name rfl) (a_cons (r_name rfl) a_nil rfl) rfl) (hp.xor rfl)) rfl rfl) ?_
            refine Ru.step (Xe.assign ok (n := 9) (v := .int (-1)) (r_un r_int rfl) rfl rfl) ?_
            exact Ru.step (Xe.ite ok (n := 9) (b := false) (t_val rfl (r_cmp rfl rfl (r_name rfl) r_int rfl) rfl) Ru.nil) Ru.nil
          · rw [if_neg h32]
            have t32 : truthV (.bool (s != 32)) = some true := tb (by simpa using h32)
            refine Ru.weakEnd (drop (o := some ("values", (vals ++ [Builtin.bitAnd (Builtin.bitXor value product) 4294967295]).map .int))) ?_
            refine Ru.step (Xe.ite ok (n := 9) (b := false) (t_val rfl (r_fn rfl rfl rfl (a_cons (r_name rfl) a_nil rfl) hp.nont) (tn h256)) ?_) Ru.nil
            refine Ru.step (Xe.ite ok (n := 9) (b := false) (t_val rfl (r_cmp rfl rfl (r_name rfl) r_int rfl) t31) ?_) Ru.nil
            refine Ru.step (Xe.ite ok (n := 9) (b := true) (t_val rfl (r_cmp rfl rfl (r_name rfl) r_int rfl) t19) ?_) Ru.nil
            refine Ru.step (Xe.assign ok (n := 9) (v := .int (Builtin.bitXor value product)) (r_fn rfl rfl rfl (a_cons (r_name rfl) (a_cons (r_name rfl) a_nil rfl) rfl) (hp.xor rfl)) rfl rfl) ?_
            refine Ru.step (Xe.assign ok (n := 9) (v := .int (-1)) (r_un r_int rfl) rfl rfl) ?_
            rw [List.map_append]
            refine Ru.step (Xe.ite ok (n := 9) (b := true) (t_val rfl (r_cmp rfl rfl (r_name rfl) r_int rfl) t32) ?_) Ru.nil
            refine Ru.step (Xe.append ok (n := 12) (v := .int (Builtin.bitAnd (Builtin.bitXor value product) 4294967295)) rfl (r_fn rfl rfl rfl (a_cons (r_name rfl) (a_cons (r_bin (r_bin r_int r_int (b_pow (r := 4294967296) (by decide +kernel) (by decide +kernel))) r_int rfl) a_nil rfl) rfl) (hp.and_ rfl)) rfl (ints_scalar _) rfl rfl (by have : vals.length + (ss.length + 1) ≤ row.length := hlen; rw [List.length_map]; show vals.length < 2 ^ 20; (first | lia | omega)) fun _ => rfl) ?_
            exact Ru.step (Xe.assign ok (n := 9) r_int rfl rfl) Ru.nil
  · rintro σ ⟨ss, t, hv, hs, _, _, hf⟩
    cases ss with
    | cons => cases hv
    | nil =>
      have : t = row.foldl (vStep cols) ⟨[], 0, -1, false⟩ := hf
      rw [← this]
      exact Re.weak hs (Re.last (Xe.ret ok (n := 3) (r_name rfl)) rfl)
end
end Mine
namespace Mine
set_option maxRecDepth 100000

noncomputable def litI (turn f : Int) : Int := if f < 5 then colF (f + turn) else 4294967295 - colF (f + turn)
noncomputable def prodI (turn : Int) (t : List Int) : Int := t.foldl (fun p f => Builtin.bitAnd p (litI turn f)) 4294967295
noncomputable def valI (turn : Int) (ts : List (List Int)) : Int := ts.foldl (fun v t => Builtin.bitXor v (prodI turn t)) 0
noncomputable def bitsI (x : Int) : Int := ((List.range 32).map fun k => Builtin.bitAnd (x.fdiv (2 ^ k)) 1).sum
noncomputable def intsV (l : List Int) : V := .list (l.map .int)

theorem Sub.set {σ' σ : St} (h : Sub σ' σ) (x : Str) (v : V) : Sub (σ'.set x v) (σ.set x v) := by
  refine ⟨?_, fun y u e => ?_⟩
  · show (match σ'.own with | some (y, xs) => if (y == x) = true then none else some (y, xs) | none => none) = (match σ.own with | some (y, xs) => if (y == x) = true then none else some (y, xs) | none => none)
    rw [h.own]
  · unfold St.set at e ⊢
    rw [setV_lookup] at e ⊢
    split
    · rename_i h; rw [if_pos h] at e; exact e
    · rename_i h'; rw [if_neg h'] at e; exact h.vars y u e
theorem sumV_ints : ∀ l : List Int, sumV (l.map .int) = some l.sum
  | [] => rfl
  | a :: l => by rw [List.map_cons, sumV, sumV_ints l]; simp

section
variable {D : Adr} {phi : Str → List V → Option V} {prog : Program} {w : World} {K : Frag} {p : Program} {loose : List Str} {mg mb : Str → Option Value} {lvl : Nat} {a b v : V}

theorem builtin_sum (xs : List V) : builtinV "sum" [.list xs] = (sumV xs).map .int := by
  unfold builtinV
  rw [if_neg (by decide), if_pos rfl]
theorem Ru.for {Y : Sys} {n : Nat} {kd : Kd} {σ σ₂ : St} {f : Flw} {rest body : List Stmt} {q : Pos} (ok : Y.Ok) {x : Str} {px : Pos} {iter : Expr} {xs : List V} (he : evIter (Mine.ev Y.C n) kd σ.vars iter = some xs) (hset : notSet iter = true) (hx : nameOk kd x = true) (P : List V → St → Prop)
    (turn : ∀ v vs σ, P (v :: vs) σ → ∃ σ₁, Ru Y kd body (σ.set x v) .next σ₁ ∧ P vs σ₁) (h : P xs σ) (r : ∀ σ₁, P [] σ₁ → Ru Y kd rest σ₁ f σ₂) : Ru Y kd (.For (.Name x px) iter body [] q :: rest) σ f σ₂ := by
  obtain ⟨σ₁, hx, hp⟩ := Xe.forAll ok he hset hx P turn h
  exact Ru.step hx (r σ₁ hp)

theorem run_differ (ok : (sysOf D phi prog w K p loose mg mb lvl).Ok) (hp : Phi1 phi) (terms : List (List Int)) (turn : Int) :
    Re (sysOf D phi prog w K p loose mg mb lvl) (kdAt 79) (bodyAt 79) ⟨[("terms", .list (terms.map intsV)), ("turn", .int turn)], none⟩ (.ret (.int (bitsI (valI turn terms)))) := by
  conv in (kdAt 79) => whnf
  conv in (bodyAt 79) => whnf
  refine Re.step (Xe.assign ok (n := 9) r_int rfl rfl) ?_
  refine Re.for ok (n := 9) (xs := terms.map intsV) (i_val rfl (r_name rfl) rfl) rfl rfl (fun vs σ => ∃ (ts : List (List Int)) (x : Int), vs = ts.map intsV ∧ Sub ⟨[("turn", .int turn), ("value", .int x)], none⟩ σ ∧ ts.foldl (fun v t => Builtin.bitXor v (prodI turn t)) x = valI turn terms)
    ?_ ⟨terms, 0, rfl, .of (.cons rfl (.cons rfl .nil)), rfl⟩ ?_
  · rintro v vs σ ⟨ts, x, hv, hs, hf⟩
    obtain ⟨t, ts, rfl⟩ : ∃ s ss', ts = s :: ss' := by cases ts with | nil => cases hv | cons s ss => exact ⟨s, ss, rfl⟩
    cases hv
    refine ⟨⟨[("turn", .int turn), ("value", .int (Builtin.bitXor x (prodI turn t)))], none⟩, ?_, ts, _, rfl, ⟨rfl, fun _ _ h => h⟩, hf⟩
    refine Ru.weak (hs.set "term" (intsV t)) ?_
    refine Ru.step (Xe.assign ok (n := 9) (v := .int 4294967295) (r_bin (r_bin r_int r_int (b_pow (r := 4294967296) (by decide +kernel) (by decide +kernel))) r_int rfl) rfl rfl) ?_
    refine Ru.for ok (n := 9) (xs := t.map .int) (i_val rfl (r_name rfl) rfl) rfl rfl (fun us σ => ∃ (u : List Int) (y : Int), us = u.map .int ∧ Sub ⟨[("turn", .int turn), ("value", .int x), ("product", .int y)], none⟩ σ ∧ u.foldl (fun p f => Builtin.bitAnd p (litI turn f)) y = prodI turn t) ?turn
      ⟨t, 4294967295, rfl, .of (.cons rfl (.cons rfl (.cons rfl .nil))), rfl⟩ ?_
    case turn =>
      rintro v us σ ⟨u, y, hu, hs, hg⟩
      obtain ⟨f, u, rfl⟩ : ∃ s ss', u = s :: ss' := by cases u with | nil => cases hu | cons s ss => exact ⟨s, ss, rfl⟩
      cases hu
      refine ⟨⟨[("turn", .int turn), ("value", .int x), ("product", .int (Builtin.bitAnd y (litI turn f)))], none⟩, ?_, u, _, rfl, ⟨rfl, fun _ _ h => h⟩, hg⟩
      refine Ru.weak (hs.set "figure" (.int f)) ?_
      refine Ru.weakEnd (σ₁ := ⟨[("turn", .int turn), ("value", .int x), ("product", .int (Builtin.bitAnd y (litI turn f))), ("figure", .int f), ("column", .int (colF (f + turn)))], none⟩) (.of (.cons rfl (.cons rfl (.cons rfl .nil)))) ?_
      refine Ru.step (Xe.assign ok (n := 9) (v := .int (colF (f + turn))) (r_fn rfl rfl rfl (a_cons (r_bin (r_name rfl) (r_name rfl) rfl) a_nil rfl) hp.col) rfl rfl) ?_
      refine Ru.step (Xe.aug ok (n := 9) (a := y) (b := litI turn f) rfl ?_ rfl rfl) Ru.nil
      unfold litI
      by_cases h5 : f < 5
      · rw [if_pos h5]
        exact r_if (c := true) (t_val rfl (r_cmp rfl rfl (r_name rfl) r_int rfl) (td h5)) (r_name rfl)
      · rw [if_neg h5]
        exact r_if (c := false) (t_val rfl (r_cmp rfl rfl (r_name rfl) r_int rfl) (tn h5)) (r_bin (r_bin (r_bin r_int r_int (b_pow (r := 4294967296) (by decide +kernel) (by decide +kernel))) r_int rfl) (r_name rfl) rfl)
    rintro σ₁ ⟨u, y, hu, hs1, hg⟩
    cases u with
    | cons => cases hu
    | nil =>
      have hy : y = prodI turn t := hg
      subst hy
      refine Ru.weak hs1 ?_
      refine Ru.weakEnd (σ₁ := ⟨[("turn", .int turn), ("value", .int (Builtin.bitXor x (prodI turn t))), ("product", .int (prodI turn t))], none⟩) (.of (.cons rfl (.cons rfl .nil))) ?_
      exact Ru.step (Xe.aug ok (n := 9) rfl (r_name rfl) rfl rfl) Ru.nil
  · rintro σ ⟨ts, x, hv, hs, hf⟩
    cases ts with
    | cons => cases hv
    | nil =>
      have : x = valI turn terms := hf
      subst this
      refine Re.weak hs (Re.last (Xe.ret ok (n := 12) (r_bi rfl rfl rfl (by decide) (by decide) (b := .builtin "sum") rfl (a_cons (r_comp0 ⟨rfl, rfl, rfl⟩ (i_range rfl (by decide) (a_cons r_int a_nil rfl) (g_range (k := 32) (by decide))) (by decide) (c_map (g := fun x => match x with | .int k => .int (Builtin.bitAnd ((valI turn terms).fdiv (2 ^ k.toNat)) 1) | _ => .none) ?_)) a_nil rfl) ?_)) rfl)
      · intro y hy
        rw [List.mem_map] at hy
        obtain ⟨k, _, rfl⟩ := hy
        exact m_some (r_bin (r_bin (r_name rfl) (r_name rfl) (b_shr (by simp) rfl)) r_int rfl)
      · rw [builtin_sum, List.map_map]
        have : ((fun x => match x with | V.int k => V.int (Builtin.bitAnd ((valI turn terms).fdiv (2 ^ k.toNat)) 1) | _ => V.none) ∘ fun (i : Nat) => V.int (i : Int)) = V.int ∘ fun (k : Nat) => Builtin.bitAnd ((valI turn terms).fdiv (2 ^ k)) 1 := by
          funext k; simp
        rw [this, ← List.map_map, sumV_ints]; rfl
end
end Mine
namespace Mine
set_option maxRecDepth 100000

noncomputable def low (c : Nat) : Nat := if 65 ≤ c ∧ c ≤ 90 then c + 32 else c
noncomputable def subN (c d : Nat) : Int := if c = d then 0 else if low c = low d then 1 else 2
theorem lower_table : ((List.range 128).all fun c => decide ((Txt.lower (S [c])).cps.toList = [low c])) = true := by decide +kernel
theorem lower_of {c : Nat} (h : c < 128) : Txt.lower (S [c]) = S [low c] := by
  have := List.all_eq_true.mp lower_table c (List.mem_range.mpr h)
  rw [decide_eq_true_eq] at this
  rw [S_of (Txt.lower (S [c])), this]
theorem subst_of {c d : Nat} (hc : c < 128) (hd : d < 128) : substF (S [c]) (S [d]) = subN c d := by
  unfold substF subN
  rw [lower_of hc, lower_of hd]
  have e1 : (S [c] = S [d]) = (c = d) := by rw [eq_iff_iff, S_inj]; simp
  have e2 : (S [low c] = S [low d]) = (low c = low d) := by rw [eq_iff_iff, S_inj]; simp
  simp only [e1, e2]

noncomputable def preN : List Nat → List Nat → Nat
  | x :: xs, y :: ys => if x = y then preN xs ys + 1 else 0
  | _, _ => 0
theorem preN_le : ∀ a b : List Nat, preN a b ≤ a.length ∧ preN a b ≤ b.length
  | [], b => by simp [preN]
  | _ :: _, [] => by simp [preN]
  | x :: xs, y :: ys => by
    have := preN_le xs ys
    unfold preN
    split
    · simp; (first | lia | omega)
    · simp
structure Lev where
  row : List Int
  dist : Int
  res : Int
  mini : Int
noncomputable def minI (a b : Int) : Int := if b < a then b else a
noncomputable def inStep (a : List Nat) (bc : Nat) (t : Lev) (i : Nat) : Lev :=
  ⟨t.row.set i (minI (minI t.res (t.row.getD i 0) + 2) (t.dist + subN bc (a.getD i 0))), t.row.getD i 0, minI (minI t.res (t.row.getD i 0) + 2) (t.dist + subN bc (a.getD i 0)),
    if minI (minI t.res (t.row.getD i 0) + 2) (t.dist + subN bc (a.getD i 0)) < t.mini then minI (minI t.res (t.row.getD i 0) + 2) (t.dist + subN bc (a.getD i 0)) else t.mini⟩
noncomputable def outStep (a b : List Nat) (row : List Int) (bi : Nat) : Lev := (List.range a.length).foldl (inStep a (b.getD bi 0)) ⟨row, bi * 2, bi * 2, 9223372036854775807⟩
noncomputable def levGo (a b : List Nat) (m : Int) : List Nat → List Int → Int → Int
  | [], _, res => res
  | bi :: r, row, _ => if m < (outStep a b row bi).mini then m + 1 else levGo a b m r (outStep a b row bi).row (outStep a b row bi).res
noncomputable def levB (a b : List Nat) (m : Int) : Int := if m < ((b.length : Int) - a.length) * 2 then m + 1 else levGo a b m (List.range b.length) ((List.range a.length).map fun (i : Nat) => 2 + (i : Int) * 2) 0
noncomputable def levA (a b : List Nat) (m : Int) : Int :=
  if a = [] ∨ b = [] then 2 * ((a.length : Int) + b.length) else if 40 < a.length ∨ 40 < b.length then m + 1 else if b.length < a.length then levB b a m else levB a b m
noncomputable def lev (a b : List Nat) (m : Int) : Int :=
  if a = b then 0 else
    levA ((a.drop (preN a b)).take ((a.drop (preN a b)).length - preN (a.drop (preN a b)).reverse (b.drop (preN a b)).reverse)) ((b.drop (preN a b)).take ((b.drop (preN a b)).length - preN (a.drop (preN a b)).reverse (b.drop (preN a b)).reverse)) m

theorem inStep_len (a : List Nat) (bc : Nat) (t : Lev) (i : Nat) : (inStep a bc t i).row.length = t.row.length := by simp [inStep]
theorem foldIn_len (a : List Nat) (bc : Nat) : ∀ (l : List Nat) (t : Lev), (l.foldl (inStep a bc) t).row.length = t.row.length
  | [], _ => rfl
  | i :: l, t => by rw [List.foldl_cons, foldIn_len a bc l, inStep_len]
theorem outStep_len (a b : List Nat) (row : List Int) (bi : Nat) : (outStep a b row bi).row.length = row.length := by
  unfold outStep; rw [foldIn_len]

section
variable {D : Adr} {phi : Str → List V → Option V} {prog : Program} {w : World} {K : Frag} {p : Program} {loose : List Str} {mg mb : Str → Option Value} {lvl : Nat} {v : V}

/-- a for loop that may return -/
theorem Re.forR {Y : Sys} {n : Nat} {kd : Kd} {σ : St} {u : V} {rest body : List Stmt} {q : Pos} (ok : Y.Ok) {x : Str} {px : Pos} {iter : Expr} {xs : List V} (he : evIter (Mine.ev Y.C n) kd σ.vars iter = some xs) (hset : notSet iter = true) (hx : nameOk kd x = true) (P : List V → St → Prop)
    (turn : ∀ v vs σ, P (v :: vs) σ → (∃ σ₁, Ru Y kd body (σ.set x v) .next σ₁ ∧ P vs σ₁) ∨ ∃ σ₁, Ru Y kd body (σ.set x v) (.ret u) σ₁) (h : P xs σ) (r : ∀ σ₁, P [] σ₁ → Re Y kd rest σ₁ (.ret u)) : Re Y kd (.For (.Name x px) iter body [] q :: rest) σ (.ret u) := by
  have key : ∀ xs σ, P xs σ → (∃ σ₁, Fo Y kd x body xs σ .next σ₁ ∧ P [] σ₁) ∨ ∃ σ₁, Fo Y kd x body xs σ (.ret u) σ₁ := by
    intro xs
    induction xs with
    | nil => exact fun σ h => .inl ⟨σ, .done, h⟩
    | cons v vs ih =>
      intro σ h
      rcases turn v vs σ h with ⟨σ₁, r, hp⟩ | ⟨σ₁, r⟩
      · rcases ih σ₁ hp with ⟨σ₂, hf, hp⟩ | ⟨σ₂, hf⟩
        · exact .inl ⟨σ₂, .turn r hf, hp⟩
        · exact .inr ⟨σ₂, .turn r hf⟩
      · exact .inr ⟨_, .ret r⟩
  rcases key xs σ h with ⟨σ₁, hf, hp⟩ | ⟨σ₁, hf⟩
  · exact Re.step (Xe.for ok he hset hx hf) (r σ₁ hp)
  · exact Re.last (Xe.for ok he hset hx hf) rfl

theorem builtin_min (a b : Int) : builtinV "min" [.int a, .int b] = some (.int (minI a b)) := by
  unfold builtinV
  rw [if_neg (by decide), if_neg (by decide), if_pos rfl]; rfl
theorem builtin_len (l : List Nat) : builtinV "len" [.str (S l)] = some (.int l.length) := by
  unfold builtinV
  rw [if_pos rfl]
  show some (V.int ((S l).length : Int)) = _
  rw [S_len]

noncomputable def forB : Stmt → List Stmt
  | .For _ _ b _ _ => b
  | _ => []
noncomputable def nthS (l : List Stmt) (i : Nat) : Stmt := (l[i]?).getD (.Pass ⟨0, 0, 0, 0⟩)
noncomputable def levOut : List Stmt := forB (nthS (bodyAt 73) 15)
noncomputable def levIn : List Stmt := forB (nthS levOut 3)

noncomputable def inSt (a b : List Nat) (m : Int) (bc : Nat) (t : Lev) : St := ⟨[("a", .str (S a)), ("b", .str (S b)), ("max_cost", .int m), ("bchar", .str (S [bc])), ("distance", .int t.dist), ("result", .int t.res), ("minimum", .int t.mini)], some ("row", t.row.map .int)⟩
/-- a turn of the inner loop -/
theorem run_lev_in (ok : (sysOf D phi prog w K p loose mg mb lvl).Ok) (hp : Phi1 phi) (a b : List Nat) (m : Int) (bc : Nat) (ha : ∀ c ∈ a, c < 128) (hbc : bc < 128) (i : Nat) (hi : i < a.length) (t : Lev) (ht : t.row.length = a.length) (hl : a.length ≤ 40) :
    Ru (sysOf D phi prog w K p loose mg mb lvl) (kdAt 73) levIn ((inSt a b m bc t).set "index" (.int i)) .next (inSt a b m bc (inStep a bc t i)) := by
  conv in (kdAt 73) => whnf
  conv in levIn => whnf
  obtain ⟨row, dist, res, mini⟩ := t
  have hc : a[i]? = some a[i] := List.getElem?_eq_getElem hi
  have hd : a.getD i 0 = a[i] := by simp [hi]
  have hlt := ha _ (List.getElem_mem hi)
  have hr : i < row.length := by rw [ht]; exact hi
  have hrow : idxV (.list (row.map .int)) (.int (i : Int)) = some (.int (row.getD i 0)) := by
    simp only [idxV]
    rw [if_pos (by (first | lia | omega)), List.getElem?_map]
    simp [hr]
  unfold inStep
  dsimp only
  rw [hd]
  generalize a[i] = ac at hc hlt
  generalize hS : dist + subN bc ac = sub
  generalize hrd : row.getD i 0 = d at hrow
  generalize hI : minI res d + 2 = ins
  generalize hR : minI ins sub = r
  have hsub : ∀ (x : Str), True := fun _ => trivial
  have e1 : phi "_substitution_cost" [.str (S [bc]), .str (S [ac])] = some (.int (subN bc ac)) := by
    rw [← subst_of hbc hlt]
    refine hp.subst ?_
    rw [lower_of hbc, lower_of hlt]
    simp [S_len]
  have e2 : idxV (.str (S a)) (.int (i : Int)) = some (.str (S [ac])) := ix_S a i ac hc (by (first | lia | omega))
  refine Ru.weakEnd (σ₁ := ⟨[("a", .str (S a)), ("b", .str (S b)), ("max_cost", .int m), ("bchar", .str (S [bc])), ("distance", .int d), ("result", .int r), ("minimum", .int (if r < mini then r else mini)), ("index", .int i), ("substitute", .int sub), ("insert_delete", .int ins)], some ("row", (row.map V.int).set i (.int r))⟩) ?_ ?_
  · unfold inSt
    rw [List.map_set]
    exact .of (.cons rfl (.cons rfl (.cons rfl (.cons rfl (.cons rfl (.cons rfl (.cons rfl .nil)))))))
  refine Ru.step (Xe.assign ok (n := 12) (v := .int sub) (r_bin (r_name rfl) (r_fn rfl rfl rfl (a_cons (r_name rfl) (a_cons (r_idx (r_name rfl) (r_name rfl) e2 rfl rfl) a_nil rfl) rfl) e1) (by rw [← hS]; rfl)) rfl rfl) ?_
  refine Ru.step (Xe.assignV ok (n := 12) (v := .int d) rfl (r_idx (r_name rfl) (r_name rfl) hrow rfl rfl) rfl rfl) ?_
  refine Ru.step (Xe.assign ok (n := 12) (v := .int ins) (r_bin (r_bi rfl rfl rfl (by decide) (by decide) (b := .builtin "min") rfl (a_cons (r_name rfl) (a_cons (r_name rfl) a_nil rfl) rfl) (builtin_min _ _)) (r_glob rfl rfl) (by rw [← hI]; rfl)) rfl rfl) ?_
  refine Ru.step (Xe.assign ok (n := 12) (v := .int r) (r_bi rfl rfl rfl (by decide) (by decide) (b := .builtin "min") rfl (a_cons (r_name rfl) (a_cons (r_name rfl) a_nil rfl) rfl) (by rw [← hR]; exact builtin_min _ _)) rfl rfl) ?_
  refine Ru.step (Xe.setItem ok (n := 12) rfl (r_name rfl) rfl (r_name rfl) (by rw [List.length_map]; exact hr) (ints_scalar _) fun _ => rfl) ?_
  by_cases hm : r < mini
  · rw [if_pos hm]
    exact Ru.step (Xe.ite ok (n := 9) (b := true) (t_val rfl (r_cmp rfl rfl (r_name rfl) (r_name rfl) rfl) (td hm)) (Ru.step (Xe.assign ok (n := 9) (r_name rfl) rfl rfl) Ru.nil)) Ru.nil
  · rw [if_neg hm]
    exact Ru.step (Xe.ite ok (n := 9) (b := false) (t_val rfl (r_cmp rfl rfl (r_name rfl) (r_name rfl) rfl) (tn hm)) Ru.nil) Ru.nil
end
end Mine
namespace Mine
set_option maxRecDepth 100000

section
variable {D : Adr} {phi : Str → List V → Option V} {prog : Program} {w : World} {K : Frag} {p : Program} {loose : List Str} {mg mb : Str → Option Value} {lvl : Nat} {v : V}

noncomputable def outSt (a b : List Nat) (m : Int) (row : List Int) (res : Int) : St := ⟨[("a", .str (S a)), ("b", .str (S b)), ("max_cost", .int m), ("result", .int res)], some ("row", row.map .int)⟩

theorem run_lev_out (ok : (sysOf D phi prog w K p loose mg mb lvl).Ok) (hp : Phi1 phi) (a b : List Nat) (m : Int) (ha : ∀ c ∈ a, c < 128) (hb : ∀ c ∈ b, c < 128) (bi : Nat) (hbi : bi < b.length) (row : List Int) (res : Int) (hrow : row.length = a.length) (hl : a.length ≤ 40) (hlb : b.length ≤ 40) :
    Ru (sysOf D phi prog w K p loose mg mb lvl) (kdAt 73) (levOut.take 4) ((outSt a b m row res).set "bindex" (.int bi)) .next
      ⟨[("a", .str (S a)), ("b", .str (S b)), ("max_cost", .int m), ("result", .int (outStep a b row bi).res), ("minimum", .int (outStep a b row bi).mini)], some ("row", (outStep a b row bi).row.map .int)⟩ := by
  have turn := run_lev_in ok hp a b m (b.getD bi 0) ha
  conv at turn in (kdAt 73) => whnf
  conv at turn in levIn => whnf
  conv in (kdAt 73) => whnf
  conv in (List.take 4 levOut) => whnf
  have hc : b[bi]? = some b[bi] := List.getElem?_eq_getElem hbi
  have hd : b.getD bi 0 = b[bi] := by simp [hbi]
  have hlt := hb _ (List.getElem_mem hbi)
  unfold outStep
  rw [hd] at turn ⊢
  generalize b[bi] = bc at hc hlt turn
  have e2 : idxV (.str (S b)) (.int (bi : Int)) = some (.str (S [bc])) := ix_S b bi bc hc (by (first | lia | omega))
  refine Ru.step (Xe.assign ok (n := 12) (v := .str (S [bc])) (r_idx (r_name rfl) (r_name rfl) e2 rfl rfl) rfl rfl) ?_
  refine Ru.step (Xe.two ok (n := 12) (v := .int (bi * 2)) (r_bin (r_name rfl) (r_glob rfl rfl) (b_mul (.of_right (by decide)) rfl)) rfl rfl rfl) ?_
  refine Ru.step (Xe.assign ok (n := 9) r_int rfl rfl) ?_
  refine Ru.for ok (n := 12) (xs := (List.range a.length).map fun (i : Nat) => .int i) (i_range rfl (by decide) (a_cons (r_bi rfl rfl rfl (by decide) (by decide) (b := .builtin "len") rfl (a_cons (r_name rfl) a_nil rfl) (builtin_len a)) a_nil rfl) (g_range (k := a.length) (by (first | lia | omega)))) rfl rfl
    (fun vs σ => ∃ (l : List Nat) (t : Lev), vs = l.map (fun (i : Nat) => .int i) ∧ Sub (inSt a b m bc t) σ ∧ t.row.length = a.length ∧ (∀ i ∈ l, i < a.length) ∧ l.foldl (inStep a bc) t = (List.range a.length).foldl (inStep a bc) ⟨row, bi * 2, bi * 2, 9223372036854775807⟩)
    ?_ ⟨List.range a.length, ⟨row, bi * 2, bi * 2, 9223372036854775807⟩, rfl, .of (.cons rfl (.cons rfl (.cons rfl (.cons rfl (.cons rfl (.cons rfl (.cons rfl .nil))))))), hrow, fun i h => List.mem_range.mp h, rfl⟩ ?_
  · rintro v vs σ ⟨l, t, hv, hs, ht, hin, hf⟩
    obtain ⟨i, l, rfl⟩ : ∃ s ss', l = s :: ss' := by cases l with | nil => cases hv | cons s ss => exact ⟨s, ss, rfl⟩
    cases hv
    exact ⟨_, Ru.weak (hs.set "index" (.int i)) (turn hlt i (hin i List.mem_cons_self) t ht hl), l, _, rfl, ⟨rfl, fun _ _ h => h⟩, by rw [inStep_len]; exact ht, fun j h => hin j (List.mem_cons_of_mem _ h), hf⟩
  · rintro σ ⟨l, t, hv, hs, ht, hin, hf⟩
    cases l with
    | cons => cases hv
    | nil =>
      have : t = (List.range a.length).foldl (inStep a bc) ⟨row, bi * 2, bi * 2, 9223372036854775807⟩ := hf
      rw [← this]
      refine Ru.weak hs (Ru.weakEnd ?_ Ru.nil)
      exact .of (.cons rfl (.cons rfl (.cons rfl (.cons rfl (.cons rfl .nil)))))
theorem execs_app {env : Env} (s2 : List Stmt) : ∀ s1 : List Stmt, execs (s1 ++ s2) env = (execs s1 env >>= fun f => match f with | .next => execs s2 env | f => pure f)
  | [] => by
    show execs s2 env = (pure Flow.next >>= _)
    rw [pure_bind]
  | st :: l => by
    rw [List.cons_append, execs_cons, execs_cons, bind_assoc]
    congr 1
    funext fl
    cases fl <;> first | exact execs_app s2 l | (rw [pure_bind])
theorem Ru.app {Y : Sys} {kd : Kd} {σ σ₁ σ₂ : St} {f : Flw} {s2 s1 : List Stmt} (h : Ru Y kd s1 σ .next σ₁) (r : Ru Y kd s2 σ₁ f σ₂) : Ru Y kd (s1 ++ s2) σ f σ₂ := by
  constructor
  intro A s₀ s W Pk env hr F R
  rw [execs_app]
  refine wpAny_bind (wpAny_mono (h.out A s₀ s W Pk env hr F R) (fun fl s' q => ?_) fun _ _ e => e)
  obtain ⟨rfl, R'⟩ := q
  exact r.out A s₀ s' W Pk env hr F R'

theorem Re.app {Y : Sys} {kd : Kd} {σ σ₁ : St} {f : Flw} {s2 s1 : List Stmt} (h : Ru Y kd s1 σ .next σ₁) (r : Re Y kd s2 σ₁ f) : Re Y kd (s1 ++ s2) σ f := let ⟨σ₂, r⟩ := r.out; ⟨σ₂, Ru.app h r⟩
theorem run_lev_turn (ok : (sysOf D phi prog w K p loose mg mb lvl).Ok) (hp : Phi1 phi) (a b : List Nat) (m : Int) (ha : ∀ c ∈ a, c < 128) (hb : ∀ c ∈ b, c < 128) (bi : Nat) (hbi : bi < b.length) (row : List Int) (res : Int) (hrow : row.length = a.length) (hl : a.length ≤ 40) (hlb : b.length ≤ 40) :
    (¬ m < (outStep a b row bi).mini → Ru (sysOf D phi prog w K p loose mg mb lvl) (kdAt 73) levOut ((outSt a b m row res).set "bindex" (.int bi)) .next (outSt a b m (outStep a b row bi).row (outStep a b row bi).res)) ∧
    (m < (outStep a b row bi).mini → Re (sysOf D phi prog w K p loose mg mb lvl) (kdAt 73) levOut ((outSt a b m row res).set "bindex" (.int bi)) (.ret (.int (m + 1)))) := by
  have h := run_lev_out ok hp a b m ha hb bi hbi row res hrow hl hlb
  have e : levOut = levOut.take 4 ++ levOut.drop 4 := (List.take_append_drop 4 levOut).symm
  constructor
  · intro hm
    rw [e]
    refine Ru.app h ?_
    conv in (kdAt 73) => whnf
    conv in (List.drop 4 levOut) => whnf
    refine Ru.step (Xe.ite ok (n := 9) (b := false) (t_val rfl (r_cmp rfl rfl (r_name rfl) (r_name rfl) rfl) (tn hm)) Ru.nil) (Ru.weakEnd ?_ Ru.nil)
    exact .of (.cons rfl (.cons rfl (.cons rfl (.cons rfl .nil))))
  · intro hm
    rw [e]
    refine Re.app h ?_
    conv in (kdAt 73) => whnf
    conv in (List.drop 4 levOut) => whnf
    exact Re.last (Xe.ite ok (n := 9) (b := true) (t_val rfl (r_cmp rfl rfl (r_name rfl) (r_name rfl) rfl) (td hm)) (Ru.last (Xe.ret ok (n := 9) (r_bin (r_name rfl) r_int rfl)) rfl)) rfl

theorem range3 (a b c : Int) : rangeV [.int a, .int b, .int c] = if okR a b c = true then some (rangeVs a b c) else none := rfl
theorem levGo_cons (a b : List Nat) (m : Int) (bi : Nat) (r : List Nat) (row : List Int) (res : Int) : levGo a b m (bi :: r) row res = if m < (outStep a b row bi).mini then m + 1 else levGo a b m r (outStep a b row bi).row (outStep a b row bi).res := rfl
/-- from the row on -/
theorem run_levB (ok : (sysOf D phi prog w K p loose mg mb lvl).Ok) (hp : Phi1 phi) (a b : List Nat) (m : Int) (ha : ∀ c ∈ a, c < 128) (hb : ∀ c ∈ b, c < 128) (hl : a.length ≤ 40) (hlb : b.length ≤ 40) (ha0 : a ≠ []) :
    Re (sysOf D phi prog w K p loose mg mb lvl) (kdAt 73) ((bodyAt 73).drop 12) ⟨[("a", .str (S a)), ("b", .str (S b)), ("max_cost", .int m)], none⟩ (.ret (.int (levB a b m))) := by
  have turn := run_lev_turn ok hp a b m ha hb
  conv at turn in (kdAt 73) => whnf
  conv at turn in levOut => whnf
  conv in (kdAt 73) => whnf
  conv in (List.drop 12 (bodyAt 73)) => whnf
  unfold levB
  have la : ∀ {σ : St} {n : Nat} {q1 q2 q3 : Pos} {kd : Kd} (h : isGlob kd σ.vars "len" = true) (h2 : σ.vars.lookup ("a" : Str) = some (.str (S a))), ev (sysOf D phi prog w K p loose mg mb lvl).C (n + 2) false kd σ.vars (.Call (.Name "len" q1) [.Name "a" q2] [] q3) = some (.int a.length) := fun h h2 => r_bi h rfl rfl (by decide) (by decide) (b := .builtin "len") rfl (a_cons (r_name h2) a_nil rfl) (builtin_len a)
  have lb : ∀ {σ : St} {n : Nat} {q1 q2 q3 : Pos} {kd : Kd} (h : isGlob kd σ.vars "len" = true) (h2 : σ.vars.lookup ("b" : Str) = some (.str (S b))), ev (sysOf D phi prog w K p loose mg mb lvl).C (n + 2) false kd σ.vars (.Call (.Name "len" q1) [.Name "b" q2] [] q3) = some (.int b.length) := fun h h2 => r_bi h rfl rfl (by decide) (by decide) (b := .builtin "len") rfl (a_cons (r_name h2) a_nil rfl) (builtin_len b)
  have hmul : ∀ x : Int, binV .Mult (.int x) (.int 2) = some (.int (x * 2)) := fun x => b_mul (.of_right (by decide)) rfl
  have hmul2 : ∀ x : Int, binV .Mult (.int 2) (.int x) = some (.int (2 * x)) := fun x => b_mul (.of_left (by decide)) rfl
  by_cases hm : m < ((b.length : Int) - a.length) * 2
  · rw [if_pos hm]
    exact Re.last (Xe.ite ok (n := 12) (b := true) (t_val rfl (r_cmp rfl rfl (r_bin (r_bin (lb rfl rfl) (la rfl rfl) rfl) (r_glob rfl rfl) (hmul _)) (r_name rfl) rfl) (td hm)) (Ru.last (Xe.ret ok (n := 9) (r_bin (r_name rfl) r_int rfl)) rfl)) rfl
  · rw [if_neg hm]
    refine Re.step (Xe.ite ok (n := 12) (b := false) (t_val rfl (r_cmp rfl rfl (r_bin (r_bin (lb rfl rfl) (la rfl rfl) rfl) (r_glob rfl rfl) (hmul _)) (r_name rfl) rfl) (tn hm)) Ru.nil) ?_
    have h1 : 1 ≤ a.length := List.length_pos_iff.mpr ha0
    have hrange : rangeV [.int 2, .int (2 * ((a.length : Int) + 1)), .int 2] = some (((List.range a.length).map fun (i : Nat) => 2 + (i : Int) * 2).map .int) := by
      have hn : rangeN 2 (2 * ((a.length : Int) + 1)) 2 = a.length := by
        unfold rangeN Builtin.Range.rangeSize
        have h2 : (2 : Int) < 2 * ((a.length : Int) + 1) := by (first | lia | omega)
        simp only [show (2 : Int) > 0 from by decide, if_true, h2]
        (first | lia | omega)
      have ok : okR 2 (2 * ((a.length : Int) + 1)) 2 = true := by
        unfold okR
        rw [hn]
        simp
        (first | lia | omega)
      rw [range3, if_pos ok]
      unfold rangeVs
      rw [hn, List.map_map]
      rfl
    refine Re.step (Xe.ownRange ok (n := 12) rfl rfl (a_cons (r_glob rfl rfl) (a_cons (r_bin (r_glob rfl rfl) (r_bin (la rfl rfl) r_int rfl) (hmul2 _)) (a_cons (r_glob rfl rfl) a_nil rfl) rfl) rfl) hrange rfl) ?_
    refine Re.step (Xe.assign ok (n := 9) r_int rfl rfl) ?_
    refine Re.forR ok (n := 12) (xs := (List.range b.length).map fun (i : Nat) => .int i) (i_range rfl (by decide) (a_cons (lb rfl rfl) a_nil rfl) (g_range (k := b.length) (by (first | lia | omega)))) rfl rfl
      (fun vs σ => ∃ (l : List Nat) (row : List Int) (res : Int), vs = l.map (fun (i : Nat) => .int i) ∧ Sub (outSt a b m row res) σ ∧ row.length = a.length ∧ (∀ i ∈ l, i < b.length) ∧ levGo a b m l row res = levGo a b m (List.range b.length) ((List.range a.length).map fun (i : Nat) => 2 + (i : Int) * 2) 0)
      ?_ ⟨List.range b.length, _, 0, rfl, .of (.cons rfl (.cons rfl (.cons rfl (.cons rfl .nil)))), by simp, fun i h => List.mem_range.mp h, rfl⟩ ?_
    · rintro v vs σ ⟨l, row, res, hv, hs, hr, hin, hf⟩
      obtain ⟨i, l, rfl⟩ : ∃ s ss', l = s :: ss' := by cases l with | nil => cases hv | cons s ss => exact ⟨s, ss, rfl⟩
      cases hv
      obtain ⟨t1, t2⟩ := turn i (hin i List.mem_cons_self) row res hr hl hlb
      rw [levGo_cons] at hf
      by_cases hmi : m < (outStep a b row i).mini
      · right
        rw [if_pos hmi] at hf
        obtain ⟨σ₁, t2⟩ := (t2 hmi).out
        rw [← hf]
        exact ⟨σ₁, Ru.weak (hs.set "bindex" (.int i)) t2⟩
      · left
        rw [if_neg hmi] at hf
        exact ⟨_, Ru.weak (hs.set "bindex" (.int i)) (t1 hmi), l, _, _, rfl, ⟨rfl, fun _ _ h => h⟩, by rw [outStep_len]; exact hr, fun j h => hin j (List.mem_cons_of_mem _ h), hf⟩
    · rintro σ ⟨l, row, res, hv, hs, hr, hin, hf⟩
      cases l with
      | cons => cases hv
      | nil =>
        have : res = _ := hf
        rw [← this]
        exact Re.weak hs (Re.last (Xe.ret ok (n := 3) (r_name rfl)) rfl)
end
end Mine
namespace Mine
set_option maxRecDepth 100000

theorem tS_t {l : List Nat} (h : l ≠ []) : truthV (.str (S l)) = some true := by
  show some ((S l).length != 0) = _
  rw [S_len]
  have := List.length_pos_iff.mpr h
  congr 1
  simpa using h
theorem tS_f : truthV (.str (S [])) = some false := rfl
theorem preN_step {a b : List Nat} {i : Nat} {c d : Nat} (ha : a[i]? = some c) (hb : b[i]? = some d) : preN (a.drop i) (b.drop i) = if c = d then preN (a.drop (i + 1)) (b.drop (i + 1)) + 1 else 0 := by
  obtain ⟨h1, rfl⟩ := List.getElem?_eq_some_iff.mp ha
  obtain ⟨h2, rfl⟩ := List.getElem?_eq_some_iff.mp hb
  rw [List.drop_eq_getElem_cons h1, List.drop_eq_getElem_cons h2]
  rfl
theorem preN_nil_l {a b : List Nat} {i : Nat} (h : a.length ≤ i) : preN (a.drop i) (b.drop i) = 0 := by
  rw [List.drop_eq_nil_of_le h]; rfl
theorem preN_nil_r {a b : List Nat} {i : Nat} (h : b.length ≤ i) : preN (a.drop i) (b.drop i) = 0 := by
  rw [List.drop_eq_nil_of_le h]; cases a.drop i <;> rfl
theorem drop_ne {l : List Nat} {i : Nat} (h : i < l.length) : l.drop i ≠ [] := fun e => by
  have := congrArg List.length e
  rw [List.length_drop] at this; simp at this; (first | lia | omega)
theorem take_ne {l : List Nat} {k : Nat} (h : k < l.length) : l.take (l.length - k) ≠ [] := fun e => by
  have := congrArg List.length e
  rw [List.length_take] at this; simp at this; (first | lia | omega)
theorem rev_get {l : List Nat} {k : Nat} (h : k < l.length) : l.reverse[k]? = l[l.length - 1 - k]? := List.getElem?_reverse h
theorem ix_neg (l : List Nat) (k : Nat) (c : Nat) (h : l[l.length - 1 - k]? = some c) (hk : k < l.length) (hl : l.length < 2 ^ 30) : idxV (.str (S l)) (.int (-(k : Int) - 1)) = some (.str (S [c])) := by
  simp only [idxV]
  rw [if_pos (by (first | lia | omega))]
  have : seqIndex? (-(k : Int) - 1) (S l).length = some (l.length - 1 - k) := by
    unfold seqIndex?
    rw [S_len]
    have : -(k : Int) - 1 < 0 := by (first | lia | omega)
    simp [this]
    (first | lia | omega)
  rw [this]
  show ((S l).cps[l.length - 1 - k]?).map _ = _
  unfold S
  rw [List.getElem?_toArray, h]
  rfl
/-- post or None -/
noncomputable def postV (k : Nat) : V := if k = 0 then .none else .int (-(k : Int))
noncomputable def postO (k : Nat) : Option Int := if k = 0 then none else some (-(k : Int))
theorem postV_opt (k : Nat) : optI (postV k) = some (postO k) := by
  unfold postV postO
  split <;> rfl
theorem post_slice (l : List Nat) (k : Nat) (h : k ≤ l.length) : sliceV (.str (S l)) none (postO k) none = some (.str (S (l.take (l.length - k)))) := by
  unfold postO
  by_cases hk : k = 0
  · rw [if_pos hk, hk, sl_all]; simp
  · rw [if_neg hk]
    exact sl_neg l k (by (first | lia | omega)) h

section
variable {D : Adr} {phi : Str → List V → Option V} {prog : Program} {w : World} {K : Frag} {p : Program} {loose : List Str} {mg mb : Str → Option Value} {lvl : Nat} {v : V}

theorem r_post {C : Cfg} {n : Nat} {kd : Kd} {vars : Vars} {p1 p2 p3 : Pos} {kk : Nat} (k : Nat) (h : vars.lookup ("post" : Str) = some (.int (-(k : Int)))) : ev C (n + 2) false kd vars (.BoolOp .Or [.Name "post" p1, .Constant .none kk p2] p3) = some (postV k) := by
  refine r_or (t := !decide (k = 0)) (r_name h) ?_ ?_
  · show some (-(k : Int) != 0) = _
    congr 1
    rw [Bool.eq_iff_iff]; simp
  · unfold postV
    by_cases hk : k = 0
    · subst hk; show (if (!decide (0 = 0)) = true then _ else ev C (n + 1) false kd vars (.Constant .none kk p2)) = _
      exact r_none (C := C) (n := n) (kd := kd) (vars := vars) (p := p2) (k := kk)
    · simp [hk]

theorem run_levA (ok : (sysOf D phi prog w K p loose mg mb lvl).Ok) (hp : Phi1 phi) (a b : List Nat) (m : Int) (ha : ∀ c ∈ a, c < 128) (hb : ∀ c ∈ b, c < 128) :
    Re (sysOf D phi prog w K p loose mg mb lvl) (kdAt 73) ((bodyAt 73).drop 9) ⟨[("a", .str (S a)), ("b", .str (S b)), ("max_cost", .int m)], none⟩ (.ret (.int (levA a b m))) := by
  have rest1 := run_levB ok hp a b m ha hb
  have rest2 := run_levB ok hp b a m hb ha
  conv at rest1 in (kdAt 73) => whnf
  conv at rest1 in (List.drop 12 (bodyAt 73)) => whnf
  conv at rest2 in (kdAt 73) => whnf
  conv at rest2 in (List.drop 12 (bodyAt 73)) => whnf
  conv in (kdAt 73) => whnf
  conv in (List.drop 9 (bodyAt 73)) => whnf
  have la : ∀ {σ : St} {n : Nat} {q1 q2 q3 : Pos} {kd : Kd} (h : isGlob kd σ.vars "len" = true) (h2 : σ.vars.lookup ("a" : Str) = some (.str (S a))), ev (sysOf D phi prog w K p loose mg mb lvl).C (n + 2) false kd σ.vars (.Call (.Name "len" q1) [.Name "a" q2] [] q3) = some (.int a.length) := fun h h2 => r_bi h rfl rfl (by decide) (by decide) (b := .builtin "len") rfl (a_cons (r_name h2) a_nil rfl) (builtin_len a)
  have lb : ∀ {σ : St} {n : Nat} {q1 q2 q3 : Pos} {kd : Kd} (h : isGlob kd σ.vars "len" = true) (h2 : σ.vars.lookup ("b" : Str) = some (.str (S b))), ev (sysOf D phi prog w K p loose mg mb lvl).C (n + 2) false kd σ.vars (.Call (.Name "len" q1) [.Name "b" q2] [] q3) = some (.int b.length) := fun h h2 => r_bi h rfl rfl (by decide) (by decide) (b := .builtin "len") rfl (a_cons (r_name h2) a_nil rfl) (builtin_len b)
  have hmul2 : ∀ x : Int, binV .Mult (.int 2) (.int x) = some (.int (2 * x)) := fun x => b_mul (.of_left (by decide)) rfl
  unfold levA
  by_cases h1 : a = [] ∨ b = []
  · rw [if_pos h1]
    refine Re.last (Xe.ite ok (n := 12) (b := true) (t_bool ?_) (Ru.last (Xe.ret ok (n := 9) (r_bin (r_glob rfl rfl) (r_bin (la rfl rfl) (lb rfl rfl) rfl) (hmul2 _))) rfl)) rfl
    by_cases ha0 : a = []
    · subst ha0
      exact b_or_t (t_not (b := false) (t_val rfl (r_name rfl) tS_f))
    · have hb0 := h1.resolve_left ha0
      subst hb0
      exact b_or_f (t_not (b := true) (t_val rfl (r_name rfl) (tS_t ha0))) (b_or_t (t_not (b := false) (t_val rfl (r_name rfl) tS_f)))
  · rw [if_neg h1]
    have ha0 : a ≠ [] := fun e => h1 (.inl e)
    have hb0 : b ≠ [] := fun e => h1 (.inr e)
    refine Re.step (Xe.ite ok (n := 12) (b := false) (t_bool (b_or_f (t_not (b := true) (t_val rfl (r_name rfl) (tS_t ha0))) (b_or_f (t_not (b := true) (t_val rfl (r_name rfl) (tS_t hb0))) b_or_nil))) Ru.nil) ?_
    by_cases h2 : 40 < a.length ∨ 40 < b.length
    · rw [if_pos h2]
      refine Re.last (Xe.ite ok (n := 12) (b := true) (t_bool ?_) (Ru.last (Xe.ret ok (n := 9) (r_bin (r_name rfl) r_int rfl)) rfl)) rfl
      by_cases ha2 : 40 < a.length
      · exact b_or_t (t_val rfl (r_cmp rfl rfl (la rfl rfl) (r_glob rfl rfl) rfl) (td (by (first | lia | omega))))
      · exact b_or_f (t_val rfl (r_cmp rfl rfl (la rfl rfl) (r_glob rfl rfl) rfl) (tn (by (first | lia | omega)))) (b_or_t (t_val rfl (r_cmp rfl rfl (lb rfl rfl) (r_glob rfl rfl) rfl) (td (by (first | lia | omega)))))
    · rw [if_neg h2]
      refine Re.step (Xe.ite ok (n := 12) (b := false) (t_bool (b_or_f (t_val rfl (r_cmp rfl rfl (la rfl rfl) (r_glob rfl rfl) rfl) (tn (by (first | lia | omega)))) (b_or_f (t_val rfl (r_cmp rfl rfl (lb rfl rfl) (r_glob rfl rfl) rfl) (tn (by (first | lia | omega)))) b_or_nil))) Ru.nil) ?_
      by_cases h3 : b.length < a.length
      · rw [if_pos h3]
        refine Re.step (σ₁ := ⟨[("a", .str (S b)), ("b", .str (S a)), ("max_cost", .int m)], none⟩) (Xe.ite ok (n := 12) (b := true) (t_val rfl (r_cmp rfl rfl (lb rfl rfl) (la rfl rfl) rfl) (td (by (first | lia | omega)))) (Ru.step (Xe.swap ok (va := .str (S a)) (vb := .str (S b)) rfl rfl rfl rfl rfl rfl fun env hf hk => by unfold swappedStores Env.blockKind Env.kindOf; rw [hf, hk]; rfl) Ru.nil)) ?_
        exact rest2 (by (first | lia | omega)) (by (first | lia | omega)) hb0
      · rw [if_neg h3]
        refine Re.step (Xe.ite ok (n := 12) (b := false) (t_val rfl (r_cmp rfl rfl (lb rfl rfl) (la rfl rfl) rfl) (tn (by (first | lia | omega)))) Ru.nil) ?_
        exact rest1 (by (first | lia | omega)) (by (first | lia | omega)) ha0

/-- from the suffix on -/
theorem run_levP (ok : (sysOf D phi prog w K p loose mg mb lvl).Ok) (hp : Phi1 phi) (a b : List Nat) (m : Int) (ha : ∀ c ∈ a, c < 128) (hb : ∀ c ∈ b, c < 128) (hla : a.length ≤ 1000) (hlb : b.length ≤ 1000) :
    Re (sysOf D phi prog w K p loose mg mb lvl) (kdAt 73) ((bodyAt 73).drop 5) ⟨[("a", .str (S a)), ("b", .str (S b)), ("max_cost", .int m)], none⟩ (.ret (.int (levA (a.take (a.length - preN a.reverse b.reverse)) (b.take (b.length - preN a.reverse b.reverse)) m))) := by
  have rest := run_levA ok hp (a.take (a.length - preN a.reverse b.reverse)) (b.take (b.length - preN a.reverse b.reverse)) m (fun c hc => ha c (List.mem_of_mem_take hc)) (fun c hc => hb c (List.mem_of_mem_take hc))
  have hk := preN_le a.reverse b.reverse
  rw [List.length_reverse, List.length_reverse] at hk
  generalize hK : preN a.reverse b.reverse = kk at rest hk ⊢
  conv at rest in (kdAt 73) => whnf
  conv at rest in (List.drop 9 (bodyAt 73)) => whnf
  conv in (kdAt 73) => whnf
  conv in (List.drop 5 (bodyAt 73)) => whnf
  refine Re.step (Xe.assign ok (n := 9) r_int rfl rfl) ?_
  refine Re.while ok (fun n σ => ∃ k : Nat, n = a.length - k ∧ k ≤ a.length ∧ k ≤ b.length ∧ k + preN (a.reverse.drop k) (b.reverse.drop k) = kk ∧ σ = ⟨[("a", .str (S a)), ("b", .str (S b)), ("max_cost", .int m), ("post", .int (-(k : Int)))], none⟩)
    (fun σ => σ = ⟨[("a", .str (S a)), ("b", .str (S b)), ("max_cost", .int m), ("post", .int (-(kk : Int)))], none⟩) ?_ (a.length - 0) ⟨0, rfl, Nat.zero_le _, Nat.zero_le _, by simpa using hK, rfl⟩ ?_
  · rintro n σ ⟨k, rfl, hka, hkb, hsum, rfl⟩
    by_cases hka' : k < a.length
    · have ta := tS_t (take_ne hka')
      by_cases hkb' : k < b.length
      · have tb' := tS_t (take_ne hkb')
        have hca : a[a.length - 1 - k]? = some a[a.length - 1 - k] := List.getElem?_eq_getElem (by (first | lia | omega))
        have hcb : b[b.length - 1 - k]? = some b[b.length - 1 - k] := List.getElem?_eq_getElem (by (first | lia | omega))
        generalize a[a.length - 1 - k] = c at hca
        generalize b[b.length - 1 - k] = d at hcb
        have hst := preN_step (by rw [rev_get hka']; exact hca) (by rw [rev_get hkb']; exact hcb)
        have e1 := ix_neg a k c hca hka' (by (first | lia | omega))
        have e2 := ix_neg b k d hcb hkb' (by (first | lia | omega))
        by_cases hcd : c = d
        · subst hcd
          rw [if_pos rfl] at hst
          right
          refine ⟨12, ⟨[("a", .str (S a)), ("b", .str (S b)), ("max_cost", .int m), ("post", .int (-((k + 1 : Nat) : Int)))], none⟩, t_bool (b_and_t (t_val rfl (r_slice (r_name rfl) p_none (p_some (r_post k rfl)) p_none rfl (postV_opt k) rfl (post_slice a k hka) rfl) ta) (b_and_t (t_val rfl (r_slice (r_name rfl) p_none (p_some (r_post k rfl)) p_none rfl (postV_opt k) rfl (post_slice b k hkb) rfl) tb')
            (b_and_t (t_val rfl (r_cmp rfl rfl (r_idx (r_name rfl) (r_bin (r_name rfl) r_int rfl) e1 rfl rfl) (r_idx (r_name rfl) (r_bin (r_name rfl) r_int rfl) e2 rfl rfl) rfl) (tb (by simp))) b_and_nil))), .inl ⟨?_, a.length - (k + 1), by (first | lia | omega), k + 1, rfl, by (first | lia | omega), by (first | lia | omega), by (first | lia | omega), rfl⟩⟩
          have hdec : (-(k : Int) - 1) = -((k + 1 : Nat) : Int) := by (first | lia | omega)
          exact Ru.step (Xe.aug ok (n := 9) rfl r_int (show some _ = _ by rw [hdec]) rfl) Ru.nil
        · rw [if_neg hcd] at hst
          left
          refine ⟨12, t_bool (b_and_t (t_val rfl (r_slice (r_name rfl) p_none (p_some (r_post k rfl)) p_none rfl (postV_opt k) rfl (post_slice a k hka) rfl) ta) (b_and_t (t_val rfl (r_slice (r_name rfl) p_none (p_some (r_post k rfl)) p_none rfl (postV_opt k) rfl (post_slice b k hkb) rfl) tb')
            (b_and_f (t_val rfl (r_cmp rfl rfl (r_idx (r_name rfl) (r_bin (r_name rfl) r_int rfl) e1 rfl rfl) (r_idx (r_name rfl) (r_bin (r_name rfl) r_int rfl) e2 rfl rfl) rfl) (tb ?_))))), ?_⟩
          · rw [beq_eq_false_iff_ne]; intro e; have := S_inj.mp e; simp at this; exact hcd this
          · have : kk = k := by (first | lia | omega)
            rw [this]
      · left
        have he : k = b.length := by (first | lia | omega)
        have h0 : preN (a.reverse.drop k) (b.reverse.drop k) = 0 := preN_nil_r (by rw [List.length_reverse]; (first | lia | omega))
        refine ⟨12, t_bool (b_and_t (t_val rfl (r_slice (r_name rfl) p_none (p_some (r_post k rfl)) p_none rfl (postV_opt k) rfl (post_slice a k hka) rfl) ta) (b_and_f (t_val rfl (r_slice (r_name rfl) p_none (p_some (r_post k rfl)) p_none rfl (postV_opt k) rfl (post_slice b k hkb) rfl) ?_))), ?_⟩
        · rw [he, Nat.sub_self, List.take_zero]; exact tS_f
        · have : kk = k := by (first | lia | omega)
          rw [this]
    · left
      have he : k = a.length := by (first | lia | omega)
      have h0 : preN (a.reverse.drop k) (b.reverse.drop k) = 0 := preN_nil_l (by rw [List.length_reverse]; (first | lia | omega))
      refine ⟨12, t_bool (b_and_f (t_val rfl (r_slice (r_name rfl) p_none (p_some (r_post k rfl)) p_none rfl (postV_opt k) rfl (post_slice a k hka) rfl) ?_)), ?_⟩
      · rw [he, Nat.sub_self, List.take_zero]; exact tS_f
      · have : kk = k := by (first | lia | omega)
        rw [this]
  · rintro σ rfl
    refine Re.step (Xe.assign ok (n := 12) (r_slice (r_name rfl) p_none (p_some (r_post kk rfl)) p_none rfl (postV_opt kk) rfl (post_slice a kk hk.1) rfl) rfl rfl) ?_
    refine Re.step (Xe.assign ok (n := 12) (r_slice (r_name rfl) p_none (p_some (r_post kk rfl)) p_none rfl (postV_opt kk) rfl (post_slice b kk hk.2) rfl) rfl rfl) ?_
    exact Re.cut (.cons rfl (.cons rfl (.cons rfl .nil))) rest

theorem run_lev (ok : (sysOf D phi prog w K p loose mg mb lvl).Ok) (hp : Phi1 phi) (a b : List Nat) (m : Int) (ha : ∀ c ∈ a, c < 128) (hb : ∀ c ∈ b, c < 128) (hla : a.length ≤ 1000) (hlb : b.length ≤ 1000) :
    Re (sysOf D phi prog w K p loose mg mb lvl) (kdAt 73) (bodyAt 73) ⟨[("a", .str (S a)), ("b", .str (S b)), ("max_cost", .int m)], none⟩ (.ret (.int (lev a b m))) := by
  have rest := run_levP ok hp (a.drop (preN a b)) (b.drop (preN a b)) m (fun c hc => ha c (List.mem_of_mem_drop hc)) (fun c hc => hb c (List.mem_of_mem_drop hc)) (by rw [List.length_drop]; (first | lia | omega)) (by rw [List.length_drop]; (first | lia | omega))
  unfold lev
  have hk := preN_le a b
  generalize hK : preN a b = kk at rest hk ⊢
  conv at rest in (kdAt 73) => whnf
  conv at rest in (List.drop 5 (bodyAt 73)) => whnf
  conv in (kdAt 73) => whnf
  conv in (bodyAt 73) => whnf
  by_cases hab : a = b
  · subst hab
    rw [if_pos rfl]
    exact Re.last (Xe.ite ok (n := 12) (b := true) (t_val rfl (r_cmp rfl rfl (r_name rfl) (r_name rfl) rfl) (tb (by simp))) (Ru.last (Xe.ret ok (n := 9) r_int) rfl)) rfl
  rw [if_neg hab]
  refine Re.step (Xe.ite ok (n := 12) (b := false) (t_val rfl (r_cmp rfl rfl (r_name rfl) (r_name rfl) rfl) (tb ?_)) Ru.nil) ?_
  · rw [beq_eq_false_iff_ne]; intro e; exact hab (S_inj.mp e)
  refine Re.step (Xe.assign ok (n := 9) r_int rfl rfl) ?_
  refine Re.while ok (fun n σ => ∃ k : Nat, n = a.length - k ∧ k ≤ a.length ∧ k ≤ b.length ∧ k + preN (a.drop k) (b.drop k) = kk ∧ σ = ⟨[("a", .str (S a)), ("b", .str (S b)), ("max_cost", .int m), ("pre", .int k)], none⟩)
    (fun σ => σ = ⟨[("a", .str (S a)), ("b", .str (S b)), ("max_cost", .int m), ("pre", .int kk)], none⟩) ?_ (a.length - 0) ⟨0, rfl, Nat.zero_le _, Nat.zero_le _, by simpa using hK, rfl⟩ ?_
  · rintro n σ ⟨k, rfl, hka, hkb, hsum, rfl⟩
    by_cases hka' : k < a.length
    · have ta := tS_t (drop_ne hka')
      by_cases hkb' : k < b.length
      · have tb' := tS_t (drop_ne hkb')
        have hca : a[k]? = some a[k] := List.getElem?_eq_getElem hka'
        have hcb : b[k]? = some b[k] := List.getElem?_eq_getElem hkb'
        generalize a[k] = c at hca
        generalize b[k] = d at hcb
        have hst := preN_step hca hcb
        have e1 := ix_S a k c hca (by (first | lia | omega))
        have e2 := ix_S b k d hcb (by (first | lia | omega))
        by_cases hcd : c = d
        · subst hcd
          rw [if_pos rfl] at hst
          right
          refine ⟨12, ⟨[("a", .str (S a)), ("b", .str (S b)), ("max_cost", .int m), ("pre", .int ((k + 1 : Nat) : Int))], none⟩, t_bool (b_and_t (t_val rfl (r_slice (r_name rfl) (p_some (r_name rfl)) p_none p_none rfl rfl rfl (sl_drop a k) rfl) ta) (b_and_t (t_val rfl (r_slice (r_name rfl) (p_some (r_name rfl)) p_none p_none rfl rfl rfl (sl_drop b k) rfl) tb')
            (b_and_t (t_val rfl (r_cmp rfl rfl (r_idx (r_name rfl) (r_name rfl) e1 rfl rfl) (r_idx (r_name rfl) (r_name rfl) e2 rfl rfl) rfl) (tb (by simp))) b_and_nil))), .inl ⟨?_, a.length - (k + 1), by (first | lia | omega), k + 1, rfl, by (first | lia | omega), by (first | lia | omega), by (first | lia | omega), rfl⟩⟩
          exact Ru.step (Xe.aug ok (n := 9) rfl r_int rfl rfl) Ru.nil
        · rw [if_neg hcd] at hst
          left
          refine ⟨12, t_bool (b_and_t (t_val rfl (r_slice (r_name rfl) (p_some (r_name rfl)) p_none p_none rfl rfl rfl (sl_drop a k) rfl) ta) (b_and_t (t_val rfl (r_slice (r_name rfl) (p_some (r_name rfl)) p_none p_none rfl rfl rfl (sl_drop b k) rfl) tb')
            (b_and_f (t_val rfl (r_cmp rfl rfl (r_idx (r_name rfl) (r_name rfl) e1 rfl rfl) (r_idx (r_name rfl) (r_name rfl) e2 rfl rfl) rfl) (tb ?_))))), ?_⟩
          · rw [beq_eq_false_iff_ne]; intro e; have := S_inj.mp e; simp at this; exact hcd this
          · have : kk = k := by (first | lia | omega)
            rw [this]
      · left
        have h0 : preN (a.drop k) (b.drop k) = 0 := preN_nil_r (by (first | lia | omega))
        refine ⟨12, t_bool (b_and_t (t_val rfl (r_slice (r_name rfl) (p_some (r_name rfl)) p_none p_none rfl rfl rfl (sl_drop a k) rfl) ta) (b_and_f (t_val rfl (r_slice (r_name rfl) (p_some (r_name rfl)) p_none p_none rfl rfl rfl (sl_drop b k) rfl) ?_))), ?_⟩
        · rw [List.drop_eq_nil_of_le (by (first | lia | omega))]; exact tS_f
        · have : kk = k := by (first | lia | omega)
          rw [this]
    · left
      have h0 : preN (a.drop k) (b.drop k) = 0 := preN_nil_l (by (first | lia | omega))
      refine ⟨12, t_bool (b_and_f (t_val rfl (r_slice (r_name rfl) (p_some (r_name rfl)) p_none p_none rfl rfl rfl (sl_drop a k) rfl) ?_)), ?_⟩
      · rw [List.drop_eq_nil_of_le (by (first | lia | omega))]; exact tS_f
      · have : kk = k := by (first | lia | omega)
        rw [this]
  · rintro σ rfl
    refine Re.step (Xe.assign ok (n := 12) (r_slice (r_name rfl) (p_some (r_name rfl)) p_none p_none rfl rfl rfl (sl_drop a kk) rfl) rfl rfl) ?_
    refine Re.step (Xe.assign ok (n := 12) (r_slice (r_name rfl) (p_some (r_name rfl)) p_none p_none rfl rfl rfl (sl_drop b kk) rfl) rfl rfl) ?_
    exact Re.cut (.cons rfl (.cons rfl (.cons rfl .nil))) rest
end
end Mine
namespace Mine
set_option maxRecDepth 100000

/-- a def's object, by the fragment alone -/
structure DefK (K : Frag) (a : Addr) (ps : List Str) (kd : Kd) (body : List Stmt) : Prop where
  ok : ∃ oc od osl fd, K.lookup a = some ⟨oc, od, .func fd, osl⟩ ∧ codeIn K fd.code fd.qualname = true ∧ fd.body = .stmts body ∧ fd.scope.names = kd ∧ fd.closure = [] ∧ fd.globals = mainGlobals ∧ fd.builtins = builtinsNs ∧
    fd.scope.isCoroutine = false ∧ fd.scope.isGenerator = false ∧ fd.scope.kind = .function ∧ ∀ vals : List Value, vals.length = ps.length → bindArgs fd ⟨vals, []⟩ = pure (ps.zip vals)
  pk : (ps.all fun x => nameOk kd x) = true
  nd : ps.Nodup
  dbg : kd.lookup ("__debug__" : Str) = none
theorem DefK.at {Y : Sys} {a : Addr} {ps : List Str} {kd : Kd} {body : List Stmt} (d : DefK Y.K a ps kd body) : DefAt Y a ps kd body := ⟨d.ok, d.pk, d.nd, d.dbg⟩

/-- an own exception class, by the fragment alone -/
structure ExcK (K : Frag) (x : Str) (C : Addr) : Prop where
  ns : nsIn K mainGlobals x = some (some (.ref C))
  made : ∃ (bm : List Value) (B newId initId : String), excIn K C bm newId = true ∧ ExcBaseFacts B newId initId bm
  str : findIn K (.ref C) "__str__" = some (some (.builtin "BaseException.__str__"))
  base : ktsIn K C "BaseException" = true

/-- what the top leaves behind -/
structure Base (D : Adr) (Er Ep : Addr) (K : Frag) (w : World) : Prop where
  const : ∀ x i, gcT x = some i → ∃ t, nsIn K mainGlobals x = some (some (.int i t))
  dict : ∀ x es, gdT x = some es → ∃ a E n, nsIn K mainGlobals x = some (some (.ref a)) ∧ (a == sysModules) = false ∧ K.lookup a = some ⟨.type "dict", none, .dict E n, #[]⟩ ∧ KeysLit w.params E.toList ∧
    ∀ k, match es.lookup k with | some i => ∃ t, findBy Value.isStrOf E k = some (.int i t) | none => findBy Value.isStrOf E k = none
  fn : ∀ f a, fnT D f = some a → nsIn K mainGlobals f = some (some (.ref a)) ∧ keepIn K (.ref a) = true
  free : ∀ x : Str, x ∈ (["len", "sum", "min", "max", "str", "list", "range", "isinstance", "bool", "int"] : List Str) → nsIn K mainGlobals x = some none
  d0 : DefK K D.a0 ["a", "b"] (kdAt 1) (bodyAt 1)
  d1 : DefK K D.a1 ["a", "b"] (kdAt 2) (bodyAt 2)
  d2 : DefK K D.a2 ["a"] (kdAt 3) (bodyAt 3)
  d3 : DefK K D.a3 ["a", "b"] (kdAt 4) (bodyAt 4)
  d4 : DefK K D.a4 ["a", "b"] (kdAt 5) (bodyAt 5)
  d5 : DefK K D.a5 ["a", "b"] (kdAt 6) (bodyAt 6)
  d6 : DefK K D.a6 ["resp", "peer"] (kdAt 11) (bodyAt 11)
  d7 : DefK K D.a7 ["resp"] (kdAt 12) (bodyAt 12)
  d8 : DefK K D.a8 ["x"] (kdAt 65) (bodyAt 65)
  d9 : DefK K D.a9 ["x"] (kdAt 66) (bodyAt 66)
  d10 : DefK K D.a10 ["x"] (kdAt 67) (bodyAt 67)
  d11 : DefK K D.a11 ["ch_a", "ch_b"] (kdAt 72) (bodyAt 72)
  d12 : DefK K D.a12 ["a", "b", "max_cost"] (kdAt 73) (bodyAt 73)
  d13 : DefK K D.a13 ["reply", "quoted"] (kdAt 75) (bodyAt 75)
  d14 : DefK K D.a14 ["text"] (kdAt 76) (bodyAt 76)
  d15 : DefK K D.a15 ["row", "columns"] (kdAt 77) (bodyAt 77)
  d16 : DefK K D.a16 ["place"] (kdAt 78) (bodyAt 78)
  d17 : DefK K D.a17 ["terms", "turn"] (kdAt 79) (bodyAt 79)
  d18 : DefK K D.a18 ["value", "part"] (kdAt 80) (bodyAt 80)
  er : ExcK K "error_reply" Er
  ep : ExcK K "error_proto" Ep
  rr : exmOne K (.ref Er) (.ref Er) = some true
  pr : exmOne K (.ref Ep) (.ref Er) = some false
  pp : exmOne K (.ref Ep) (.ref Ep) = some true

section
variable {D : Adr} {Er Ep : Addr} {phi : Str → List V → Option V} {prog : Program} {w : World} {K : Frag} {p : Program} {loose : List Str} {mg mb : Str → Option Value} {lvl : Nat}

theorem ok_of (b : Base D Er Ep K w) (call : ∀ f a args v, fnT D f = some a → phi f args = some v → CallOk prog w K p loose mg mb lvl a args v) : (sysOf D phi prog w K p loose mg mb lvl).Ok :=
  ⟨b.const, b.dict, b.fn, call, b.free⟩

noncomputable def sp1 (g : V → Option V) : List V → Option V
  | [a] => g a
  | _ => none
noncomputable def sp2 (g : V → V → Option V) : List V → Option V
  | [a, b] => g a b
  | _ => none
noncomputable def sp3 (g : V → V → V → Option V) : List V → Option V
  | [a, b, c] => g a b c
  | _ => none
theorem sp1_some {g : V → Option V} {args : List V} {v : V} (h : sp1 g args = some v) : ∃ a, args = [a] ∧ g a = some v := by
  unfold sp1 at h
  split at h
  · exact ⟨_, rfl, h⟩
  · cases h
theorem sp2_some {g : V → V → Option V} {args : List V} {v : V} (h : sp2 g args = some v) : ∃ a b, args = [a, b] ∧ g a b = some v := by
  unfold sp2 at h
  split at h
  · exact ⟨_, _, rfl, h⟩
  · cases h
theorem sp3_some {g : V → V → V → Option V} {args : List V} {v : V} (h : sp3 g args = some v) : ∃ a b c, args = [a, b, c] ∧ g a b c = some v := by
  unfold sp3 at h
  split at h
  · exact ⟨_, _, _, rfl, h⟩
  · cases h

noncomputable def gTerm : V → Option V
  | .int s => some (.bool (decide (s < 256)))
  | _ => none
noncomputable def gNont : V → Option V
  | .int s => some (.bool (decide (256 ≤ s)))
  | _ => none
noncomputable def gEof : V → Option V
  | .int s => some (.bool (s == 0))
  | _ => none
noncomputable def gSubst : V → V → Option V
  | .str a, .str b => if (decide (a.length ≤ 1000) && decide (b.length ≤ 1000) && decide ((Txt.lower a).length ≤ 2 ^ 20) && decide ((Txt.lower b).length ≤ 2 ^ 20)) = true then some (.int (substF a b)) else none
  | _, _ => none
noncomputable def gCol : V → Option V
  | .int x => some (.int (colF x))
  | _ => none
noncomputable def gWord : V → V → Option V
  | .int x, .int q => if 0 ≤ q ∧ q ≤ 7 then some (.str (wordF x q.toNat)) else none
  | _, _ => none
noncomputable def gSyms : V → Option V
  | .str x => if x.cps.toList.length < 2 ^ 20 then some (.list ((symL x.cps.toList).map .int ++ [.int 0])) else none
  | _ => none
noncomputable def g257 : V → Option V
  | .str x => if x.cps.toList.length < 2 ^ 20 ∧ x.cps.toList.take 3 = [50, 53, 55] then some (.str (S (f257 x.cps.toList))) else none
  | _ => none
noncomputable def g229 : V → V → Option V
  | .str x, .tup [.str h, .int 7] => if h = "here" then (match p229 x with | .port i => some (.tup [.str "here", .int i]) | _ => none) else none
  | _, _ => none

noncomputable def tabA : List (Str × (List V → Option V)) :=
  [("add", sp2 (binV .Add)), ("and_", sp2 (binV .BitAnd)), ("inv", sp1 (unV .Invert)), ("mul", sp2 (binV .Mult)), ("sub", sp2 (binV .Sub)), ("xor", sp2 (binV .BitXor)), ("ISTERMINAL", sp1 gTerm), ("ISNONTERMINAL", sp1 gNont), ("ISEOF", sp1 gEof),
   ("_substitution_cost", sp2 gSubst), ("_law_column", sp1 gCol), ("_law_word", sp2 gWord), ("_law_symbols", sp1 gSyms), ("parse257", sp1 g257), ("parse229", sp2 g229)]
noncomputable def phiOf (tab : List (Str × (List V → Option V))) (f : Str) (args : List V) : Option V := (tab.lookup f).bind fun g => g args

theorem phi_hit {tab : List (Str × (List V → Option V))} {f : Str} {g : List V → Option V} (h : tab.lookup f = some g) (args : List V) : phiOf tab f args = g args := by
  unfold phiOf; rw [h]; rfl
theorem phi1_of {tab : List (Str × (List V → Option V))} (h : ∀ f g, tabA.lookup f = some g → tab.lookup f = some g) : Phi1 (phiOf tab) where
  add := fun e => (phi_hit (h _ (sp2 (binV .Add)) rfl) _).trans e
  and_ := fun e => (phi_hit (h _ (sp2 (binV .BitAnd)) rfl) _).trans e
  inv := fun e => (phi_hit (h _ (sp1 (unV .Invert)) rfl) _).trans e
  mul := fun e => (phi_hit (h _ (sp2 (binV .Mult)) rfl) _).trans e
  sub := fun e => (phi_hit (h _ (sp2 (binV .Sub)) rfl) _).trans e
  xor := fun e => (phi_hit (h _ (sp2 (binV .BitXor)) rfl) _).trans e
  term := (phi_hit (h _ (sp1 gTerm) rfl) _).trans rfl
  nont := (phi_hit (h _ (sp1 gNont) rfl) _).trans rfl
  eof := (phi_hit (h _ (sp1 gEof) rfl) _).trans rfl
  subst := fun e => (phi_hit (h _ (sp2 gSubst) rfl) _).trans (by unfold sp2 gSubst; dsimp only; rw [if_pos e])
  col := (phi_hit (h _ (sp1 gCol) rfl) _).trans rfl
  word := fun {x q} e => (phi_hit (h _ (sp2 gWord) rfl) _).trans (by unfold sp2 gWord; dsimp only; rw [if_pos (by (first | lia | omega))]; rfl)
  syms := fun {l} e => (phi_hit (h _ (sp1 gSyms) rfl) _).trans (by unfold sp1 gSyms S; dsimp only; rw [if_pos e])
  p257 := fun {l} e e' => (phi_hit (h _ (sp1 g257) rfl) _).trans (by unfold sp1 g257; dsimp only; rw [if_pos (show (S l).cps.toList.length < 2 ^ 20 ∧ (S l).cps.toList.take 3 = [50, 53, 55] from ⟨e, e'⟩)]; rfl)
  p229 := fun {x i} e => (phi_hit (h _ (sp2 g229) rfl) _).trans (by show (if ("here" : Str) = "here" then (match p229 x with | .port i => some (V.tup [.str "here", .int i]) | _ => none) else none) = _; rw [if_pos rfl, e])

noncomputable abbrev sysA (D : Adr) (prog : Program) (w : World) (K : Frag) (p : Program) (loose : List Str) (mg mb : Str → Option Value) : Sys := sysOf D (fun _ _ => none) prog w K p loose mg mb 0
theorem okA (b : Base D Er Ep K w) : (sysA D prog w K p loose mg mb).Ok := ok_of b (by intro f a args v _ h; cases h)

theorem call_of {Y : Sys} {a : Addr} {ps : List Str} {kd : Kd} {body : List Stmt} {args : List V} {v : V} (d : DefK Y.K a ps kd body) (hlen : args.length = ps.length) (r : Re Y kd body ⟨ps.zip args, none⟩ (.ret v)) :
    CallOk Y.prog Y.w Y.K Y.p Y.loose Y.mg Y.mb (Y.lvl + 1) a args v := let ⟨_, r⟩ := r.out; CallOk.of_run d.at hlen r.out
theorem call_ofU {Y : Sys} {a : Addr} {ps : List Str} {kd : Kd} {body : List Stmt} {args : List V} {v : V} {σ : St} (d : DefK Y.K a ps kd body) (hlen : args.length = ps.length) (r : Ru Y kd body ⟨ps.zip args, none⟩ (.ret v) σ) :
    CallOk Y.prog Y.w Y.K Y.p Y.loose Y.mg Y.mb (Y.lvl + 1) a args v := CallOk.of_run d.at hlen r.out

theorem callA (b : Base D Er Ep K w) : ∀ e ∈ tabA, ∀ a args v, fnT D e.1 = some a → e.2 args = some v → CallOk prog w K p loose mg mb 1 a args v := by
  have ok := okA (prog := prog) (p := p) (loose := loose) (mg := mg) (mb := mb) b
  unfold tabA
  simp only [List.forall_mem_cons]
  refine ⟨?_, ?_, ?_, ?_, ?_, ?_, ?_, ?_, ?_, ?_, ?_, ?_, ?_, ?_, ?_, by intro e h; cases h⟩
  · intro a args v ha h0
    obtain ⟨x, y, rfl, h⟩ := sp2_some h0
    clear h0
    have : some D.a0 = some a := ha
    cases this
    exact call_ofU (Y := sysA D prog w K p loose mg mb) b.d0 rfl (run_add ok h)
  · intro a args v ha h0
    obtain ⟨x, y, rfl, h⟩ := sp2_some h0
    clear h0
    have : some D.a1 = some a := ha
    cases this
    exact call_ofU (Y := sysA D prog w K p loose mg mb) b.d1 rfl (run_and ok h)
  · intro a args v ha h0
    obtain ⟨x, rfl, h⟩ := sp1_some h0
    clear h0
    have : some D.a2 = some a := ha
    cases this
    exact call_ofU (Y := sysA D prog w K p loose mg mb) b.d2 rfl (run_inv ok h)
  · intro a args v ha h0
    obtain ⟨x, y, rfl, h⟩ := sp2_some h0
    clear h0
    have : some D.a3 = some a := ha
    cases this
    exact call_ofU (Y := sysA D prog w K p loose mg mb) b.d3 rfl (run_mul ok h)
  · intro a args v ha h0
    obtain ⟨x, y, rfl, h⟩ := sp2_some h0
    clear h0
    have : some D.a4 = some a := ha
    cases this
    exact call_ofU (Y := sysA D prog w K p loose mg mb) b.d4 rfl (run_sub ok h)
  · intro a args v ha h0
    obtain ⟨x, y, rfl, h⟩ := sp2_some h0
    clear h0
    have : some D.a5 = some a := ha
    cases this
    exact call_ofU (Y := sysA D prog w K p loose mg mb) b.d5 rfl (run_xor ok h)
  · intro a args v ha h0
    obtain ⟨x, rfl, h⟩ := sp1_some h0
    clear h0
    have : some D.a8 = some a := ha
    cases this
    unfold gTerm at h
    split at h <;> first | contradiction | skip
    cases h
    exact call_ofU (Y := sysA D prog w K p loose mg mb) b.d8 rfl (run_term ok rfl)
  · intro a args v ha h0
    obtain ⟨x, rfl, h⟩ := sp1_some h0
    clear h0
    have : some D.a9 = some a := ha
    cases this
    unfold gNont at h
    split at h <;> first | contradiction | skip
    cases h
    exact call_ofU (Y := sysA D prog w K p loose mg mb) b.d9 rfl (run_nont ok rfl)
  · intro a args v ha h0
    obtain ⟨x, rfl, h⟩ := sp1_some h0
    clear h0
    have : some D.a10 = some a := ha
    cases this
    unfold gEof at h
    split at h <;> first | contradiction | skip
    cases h
    exact call_ofU (Y := sysA D prog w K p loose mg mb) b.d10 rfl (run_eof ok rfl)
  · intro a args v ha h0
    obtain ⟨x, y, rfl, h⟩ := sp2_some h0
    clear h0
    have : some D.a11 = some a := ha
    cases this
    unfold gSubst at h
    split at h <;> first | contradiction | skip
    obtain ⟨hc, rfl⟩ := ite_some h
    simp only [Bool.and_eq_true, decide_eq_true_eq] at hc
    exact call_ofU (Y := sysA D prog w K p loose mg mb) b.d11 rfl (run_subst ok hc.1.1.1 hc.1.1.2 hc.1.2 hc.2)
  · intro a args v ha h0
    obtain ⟨x, rfl, h⟩ := sp1_some h0
    clear h0
    have : some D.a16 = some a := ha
    cases this
    unfold gCol at h
    split at h <;> first | contradiction | skip
    cases h
    exact call_ofU (Y := sysA D prog w K p loose mg mb) b.d16 rfl (run_column ok _)
  · intro a args v ha h0
    obtain ⟨x, y, rfl, h⟩ := sp2_some h0
    clear h0
    have : some D.a18 = some a := ha
    cases this
    unfold gWord at h
    split at h <;> first | contradiction | skip
    rename_i x q
    obtain ⟨hc, rfl⟩ := ite_some h
    obtain ⟨k, rfl⟩ := Int.eq_ofNat_of_zero_le hc.1
    exact call_ofU (Y := sysA D prog w K p loose mg mb) b.d18 rfl (run_word ok x k (by (first | lia | omega)))
  · intro a args v ha h0
    obtain ⟨x, rfl, h⟩ := sp1_some h0
    clear h0
    have : some D.a14 = some a := ha
    cases this
    unfold gSyms at h
    split at h <;> first | contradiction | skip
    rename_i x
    obtain ⟨hc, rfl⟩ := ite_some h
    have := run_symbols ok x.cps.toList hc
    rw [← S_of x] at this
    exact call_of (Y := sysA D prog w K p loose mg mb) b.d14 rfl this
  · intro a args v ha h0
    obtain ⟨x, rfl, h⟩ := sp1_some h0
    clear h0
    have : some D.a7 = some a := ha
    cases this
    unfold g257 at h
    split at h <;> first | contradiction | skip
    rename_i x
    obtain ⟨hc, rfl⟩ := ite_some h
    have := run_257 ok x.cps.toList hc.1 hc.2
    rw [← S_of x] at this
    exact call_of (Y := sysA D prog w K p loose mg mb) b.d7 rfl this
  · intro a args v ha h0
    obtain ⟨x, y, rfl, h⟩ := sp2_some h0
    clear h0
    have : some D.a6 = some a := ha
    cases this
    unfold g229 at h
    split at h <;> first | contradiction | skip
    rename_i x hh
    split at h <;> first | contradiction | skip
    rename_i hx
    subst hx
    split at h <;> first | contradiction | skip
    rename_i i hi
    cases h
    exact call_of (Y := sysA D prog w K p loose mg mb) b.d6 rfl (run_229 ok hi)

theorem lookup_mem {α : Type} {f : Str} {g : α} : ∀ {l : List (Str × α)}, l.lookup f = some g → (f, g) ∈ l
  | [], h => by cases h
  | (y, u) :: r, h => by
    rw [List.lookup_cons] at h
    cases hx : f == y with
    | true =>
      have := beq_iff_eq.mp hx; subst this
      rw [hx] at h; cases h; exact List.mem_cons_self
    | false => rw [hx] at h; exact List.mem_cons_of_mem _ (lookup_mem h)
theorem okTab {tab : List (Str × (List V → Option V))} (b : Base D Er Ep K w) (c : ∀ e ∈ tab, ∀ a args v, fnT D e.1 = some a → e.2 args = some v → CallOk prog w K p loose mg mb lvl a args v) : (sysOf D (phiOf tab) prog w K p loose mg mb lvl).Ok :=
  ok_of b fun f a args v ha h => by
    unfold phiOf at h
    rw [Option.bind_eq_some_iff] at h
    obtain ⟨g, h1, h2⟩ := h
    exact c (f, g) (lookup_mem h1) a args v ha h2
noncomputable abbrev sysB (D : Adr) (prog : Program) (w : World) (K : Frag) (p : Program) (loose : List Str) (mg mb : Str → Option Value) : Sys := sysOf D (phiOf tabA) prog w K p loose mg mb 1
theorem okB (b : Base D Er Ep K w) : (sysB D prog w K p loose mg mb).Ok := okTab b (callA b)
end
end Mine
namespace Mine
set_option maxRecDepth 100000

noncomputable def intsOf? : List V → Option (List Int)
  | [] => some []
  | .int i :: r => (intsOf? r).map (i :: ·)
  | _ => none
theorem intsOf_map : ∀ l : List Int, intsOf? (l.map .int) = some l
  | [] => rfl
  | a :: l => by rw [List.map_cons, intsOf?, intsOf_map l]; rfl
theorem intsOf_eq : ∀ {vs : List V} {l : List Int}, intsOf? vs = some l → vs = l.map .int
  | [], _, h => by cases h; rfl
  | .int i :: r, l, h => by
    simp only [intsOf?, Option.map_eq_some_iff] at h
    obtain ⟨m, h, rfl⟩ := h
    rw [intsOf_eq h]; rfl
  | .none :: _, _, h => by cases h
  | .bool _ :: _, _, h => by cases h
  | .str _ :: _, _, h => by cases h
  | .list _ :: _, _, h => by cases h
  | .tup _ :: _, _, h => by cases h
noncomputable def listsOf? : List V → Option (List (List Int))
  | [] => some []
  | .list x :: r => (intsOf? x).bind fun y => (listsOf? r).map (y :: ·)
  | _ => none
theorem listsOf_map : ∀ l : List (List Int), listsOf? (l.map intsV) = some l
  | [] => rfl
  | a :: l => by rw [List.map_cons, intsV, listsOf?, intsOf_map, listsOf_map l]; rfl
theorem listsOf_eq : ∀ {vs : List V} {l : List (List Int)}, listsOf? vs = some l → vs = l.map intsV
  | [], _, h => by cases h; rfl
  | .list x :: r, l, h => by
    simp only [listsOf?, Option.bind_eq_some_iff, Option.map_eq_some_iff] at h
    obtain ⟨y, h1, m, h2, rfl⟩ := h
    rw [listsOf_eq h2, intsOf_eq h1]; rfl
  | .none :: _, _, h => by cases h
  | .bool _ :: _, _, h => by cases h
  | .str _ :: _, _, h => by cases h
  | .int _ :: _, _, h => by cases h
  | .tup _ :: _, _, h => by cases h

noncomputable def levOk (a b : List Nat) : Bool := (a.all fun c => decide (c < 128)) && (b.all fun c => decide (c < 128)) && decide (a.length ≤ 1000) && decide (b.length ≤ 1000)
noncomputable def valOk (row cols : List Int) : Bool := (row.all fun s => !decide (256 ≤ s) || (decide (s - 256 < cols.length) && decide (s < 2 ^ 40))) && decide (row.length < 2 ^ 20)
noncomputable def gLev : V → V → V → Option V
  | .str a, .str b, .int m => if levOk a.cps.toList b.cps.toList = true then some (.int (lev a.cps.toList b.cps.toList m)) else none
  | _, _, _ => none
noncomputable def gRead : V → V → Option V
  | .str x, .bool true => g257 (.str x)
  | .str x, .bool false => g229 (.str x) (.tup [.str "here", .int 7])
  | _, _ => none
noncomputable def gValues : V → V → Option V
  | .list r, .list c => (intsOf? r).bind fun row => (intsOf? c).bind fun cols => if valOk row cols = true then some (.list ((row.foldl (vStep cols) ⟨[], 0, -1, false⟩).values.map .int)) else none
  | _, _ => none
noncomputable def gDiffer : V → V → Option V
  | .list t, .int turn => (listsOf? t).map fun terms => .int (bitsI (valI turn terms))
  | _, _ => none
noncomputable def tabB2 : List (Str × (List V → Option V)) := [("_levenshtein_distance", sp3 gLev), ("_law_read", sp2 gRead), ("_law_values", sp2 gValues), ("_law_differ", sp2 gDiffer)]
noncomputable def tabB : List (Str × (List V → Option V)) := tabA ++ tabB2

structure Phi2 (phi : Str → List V → Option V) : Prop extends Phi1 phi where
  lev : ∀ {a b : List Nat} {m : Int}, levOk a b = true → phi "_levenshtein_distance" [.str (S a), .str (S b), .int m] = some (.int (lev a b m))
  r257 : ∀ {l : List Nat}, l.length < 2 ^ 20 → l.take 3 = [50, 53, 55] → phi "_law_read" [.str (S l), .bool true] = some (.str (S (f257 l)))
  r229 : ∀ {x : Str} {i : Int}, Mine.p229 x = .port i → phi "_law_read" [.str x, .bool false] = some (.tup [.str "here", .int i])
  values : ∀ {row cols : List Int}, valOk row cols = true → phi "_law_values" [intsV row, intsV cols] = some (intsV (row.foldl (vStep cols) ⟨[], 0, -1, false⟩).values)
  differ : ∀ {terms : List (List Int)} {turn : Int}, phi "_law_differ" [.list (terms.map intsV), .int turn] = some (.int (bitsI (valI turn terms)))

theorem lookup_app {α : Type} {f : Str} {g : α} : ∀ {l r : List (Str × α)}, l.lookup f = some g → (l ++ r).lookup f = some g
  | [], _, h => by cases h
  | (y, u) :: l, r, h => by
    rw [List.cons_append, List.lookup_cons]
    rw [List.lookup_cons] at h
    cases hx : f == y with
    | true => rw [hx] at h; exact h
    | false => rw [hx] at h; exact lookup_app h
theorem phi2_B : Phi2 (phiOf tabB) where
  toPhi1 := phi1_of fun _ _ h => lookup_app h
  lev := fun {a b m} e => (phi_hit (g := sp3 gLev) rfl _).trans (by unfold sp3 gLev; dsimp only; rw [if_pos (show levOk (S a).cps.toList (S b).cps.toList = true from e)]; rfl)
  r257 := fun {l} e e' => (phi_hit (g := sp2 gRead) rfl _).trans (by unfold sp2 gRead g257; dsimp only; rw [if_pos (show (S l).cps.toList.length < 2 ^ 20 ∧ (S l).cps.toList.take 3 = [50, 53, 55] from ⟨e, e'⟩)]; rfl)
  r229 := fun {x i} e => (phi_hit (g := sp2 gRead) rfl _).trans (by show (if ("here" : Str) = "here" then (match Mine.p229 x with | .port i => some (V.tup [.str "here", .int i]) | _ => none) else none) = _; rw [if_pos rfl, e])
  values := fun {row cols} e => (phi_hit (g := sp2 gValues) rfl _).trans (by unfold sp2 gValues intsV; dsimp only; rw [intsOf_map, Option.bind_some, intsOf_map, Option.bind_some, if_pos e])
  differ := fun {terms turn} => (phi_hit (g := sp2 gDiffer) rfl _).trans (by unfold sp2 gDiffer; dsimp only; rw [listsOf_map]; rfl)

section
variable {D : Adr} {Er Ep : Addr} {phi : Str → List V → Option V} {prog : Program} {w : World} {K : Frag} {p : Program} {loose : List Str} {mg mb : Str → Option Value} {lvl : Nat}

theorem run_read257 (ok : (sysOf D phi prog w K p loose mg mb lvl).Ok) (hp : Phi1 phi) {l : List Nat} (h1 : l.length < 2 ^ 20) (h2 : l.take 3 = [50, 53, 55]) :
    Re (sysOf D phi prog w K p loose mg mb lvl) (kdAt 75) (bodyAt 75) ⟨[("reply", .str (S l)), ("quoted", .bool true)], none⟩ (.ret (.str (S (f257 l)))) := by
  conv in (kdAt 75) => whnf
  conv in (bodyAt 75) => whnf
  exact Re.last (Xe.try_ret (Ru.last (Xe.ret ok (n := 9) (r_if (c := true) (t_val rfl (r_name rfl) rfl) (r_fn rfl rfl rfl (a_cons (r_name rfl) a_nil rfl) (hp.p257 h1 h2)))) rfl)) rfl
theorem run_read229 (ok : (sysOf D phi prog w K p loose mg mb lvl).Ok) (hp : Phi1 phi) {x : Str} {i : Int} (h : p229 x = .port i) :
    Re (sysOf D phi prog w K p loose mg mb lvl) (kdAt 75) (bodyAt 75) ⟨[("reply", .str x), ("quoted", .bool false)], none⟩ (.ret (.tup [.str "here", .int i])) := by
  conv in (kdAt 75) => whnf
  conv in (bodyAt 75) => whnf
  exact Re.last (Xe.try_ret (Ru.last (Xe.ret ok (n := 9) (r_if (c := false) (t_val rfl (r_name rfl) rfl) (r_fn rfl rfl rfl (a_cons (r_name rfl) (a_cons (r_tup (a_cons (r_str (by decide)) (a_cons r_int a_nil rfl) rfl) (by decide)) a_nil rfl) rfl) (hp.p229 h)))) rfl)) rfl

theorem CallOk.up {a : Addr} {args : List V} {v : V} {l l' : Nat} (h : l ≤ l') (c : CallOk prog w K p loose mg mb l a args v) : CallOk prog w K p loose mg mb l' a args v := c.mono h

theorem callB (b : Base D Er Ep K w) : ∀ e ∈ tabB, ∀ a args v, fnT D e.1 = some a → e.2 args = some v → CallOk prog w K p loose mg mb 2 a args v := by
  have ok := okB (prog := prog) (p := p) (loose := loose) (mg := mg) (mb := mb) b
  have hp : Phi1 (phiOf tabA) := phi1_of fun _ _ h => h
  intro e he
  replace he : e ∈ tabA ++ tabB2 := he
  rcases List.mem_append.mp he with he | he
  · intro a args v ha h
    exact (callA b e he a args v ha h).mono (by decide)
  suffices hh : ∀ e ∈ tabB2, ∀ a args v, fnT D e.1 = some a → e.2 args = some v → CallOk prog w K p loose mg mb 2 a args v from hh e he
  clear he
  clear he
  unfold tabB2
  simp only [List.forall_mem_cons]
  refine ⟨?_, ?_, ?_, ?_, by intro e h; cases h⟩
  · intro a args v ha h0
    obtain ⟨x, y, z, rfl, h⟩ := sp3_some h0
    clear h0
    have : some D.a12 = some a := ha
    cases this
    unfold gLev at h
    split at h <;> first | contradiction | skip
    rename_i x y m
    obtain ⟨hc, rfl⟩ := ite_some h
    simp only [levOk, Bool.and_eq_true, List.all_eq_true, decide_eq_true_eq] at hc
    have := run_lev ok hp x.cps.toList y.cps.toList m hc.1.1.1 hc.1.1.2 hc.1.2 hc.2
    rw [← S_of x, ← S_of y] at this
    exact call_of (Y := sysB D prog w K p loose mg mb) b.d12 rfl this
  · intro a args v ha h0
    obtain ⟨x, y, rfl, h⟩ := sp2_some h0
    clear h0
    have : some D.a13 = some a := ha
    cases this
    unfold gRead at h
    split at h <;> first | contradiction | skip
    · rename_i x
      unfold g257 at h
      dsimp only at h
      obtain ⟨hc, rfl⟩ := ite_some h
      have := run_read257 ok hp hc.1 hc.2
      rw [← S_of x] at this
      exact call_of (Y := sysB D prog w K p loose mg mb) b.d13 rfl this
    · rename_i x
      have h : (if ("here" : Str) = "here" then (match p229 x with | .port i => some (V.tup [.str "here", .int i]) | _ => none) else none) = some v := h
      rw [if_pos rfl] at h
      split at h <;> first | contradiction | skip
      rename_i i hi
      cases h
      exact call_of (Y := sysB D prog w K p loose mg mb) b.d13 rfl (run_read229 ok hp hi)
  · intro a args v ha h0
    obtain ⟨x, y, rfl, h⟩ := sp2_some h0
    clear h0
    have : some D.a15 = some a := ha
    cases this
    unfold gValues at h
    split at h <;> first | contradiction | skip
    rw [Option.bind_eq_some_iff] at h
    obtain ⟨row, h1, h⟩ := h
    rw [Option.bind_eq_some_iff] at h
    obtain ⟨cols, h2, h⟩ := h
    obtain ⟨hc, rfl⟩ := ite_some h
    rw [intsOf_eq h1, intsOf_eq h2]
    simp only [valOk, Bool.and_eq_true, Bool.or_eq_true, List.all_eq_true, decide_eq_true_eq, Bool.not_eq_true', decide_eq_false_iff_not] at hc
    exact call_of (Y := sysB D prog w K p loose mg mb) b.d15 rfl (run_values ok hp row cols (fun s hs h6 => (hc.1 s hs).resolve_left (fun h => h h6)) hc.2)
  · intro a args v ha h0
    obtain ⟨x, y, rfl, h⟩ := sp2_some h0
    clear h0
    have : some D.a17 = some a := ha
    cases this
    unfold gDiffer at h
    split at h <;> first | contradiction | skip
    rw [Option.map_eq_some_iff] at h
    obtain ⟨terms, h1, rfl⟩ := h
    rw [listsOf_eq h1]
    exact call_of (Y := sysB D prog w K p loose mg mb) b.d17 rfl (run_differ ok hp terms _)
noncomputable abbrev sysC (D : Adr) (prog : Program) (w : World) (K : Frag) (p : Program) (loose : List Str) (mg mb : Str → Option Value) : Sys := sysOf D (phiOf tabB) prog w K p loose mg mb 2
theorem okC (b : Base D Er Ep K w) : (sysC D prog w K p loose mg mb).Ok := okTab b (callB b)
end
end Mine
namespace Mine
set_option maxRecDepth 100000

theorem noCells {kd : Kd} (h : (kd.all fun y => y.2 != .cell) = true) : ∀ y ∈ kd, y.2 ≠ .cell := fun y hy => by
  have := List.all_eq_true.mp h y hy
  simpa using this

section
variable {D : Adr} {Er Ep : Addr} {prog : Program} {w : World} {K : Frag} {p : Program} {loose : List Str} {mg mb : Str → Option Value} {mean : ExcName → Option Value} {A : Around} {base : Heap} {outer : List Env}

theorem callx_257 (b : Base D Er Ep K w) {l : List Nat} (h3 : l.take 3 ≠ [50, 53, 55]) : CallX (sysB D prog w K p loose mg mb) D.a7 [.str (S l)] Er (.str (S l)) := by
  have ok := okA (prog := prog) (p := p) (loose := loose) (mg := mg) (mb := mb) b
  obtain ⟨bm, B, nw, ini, h1, h2⟩ := b.er.made
  exact CallX.of_run (Y := sysA D prog w K p loose mg mb) (l := 1) b.d7.at (noCells (by decide +kernel)) rfl (rx_257 ok l h3 b.er.ns h1 h2).out (Nat.le_refl 1)
theorem callx_229r (b : Base D Er Ep K w) {x : Str} (h : p229 x = .reply) : CallX (sysB D prog w K p loose mg mb) D.a6 [.str x, .tup [.str "here", .int 7]] Er (.str x) := by
  have ok := okA (prog := prog) (p := p) (loose := loose) (mg := mg) (mb := mb) b
  obtain ⟨bm, B, nw, ini, h1, h2⟩ := b.er.made
  exact CallX.of_run (Y := sysA D prog w K p loose mg mb) (l := 1) b.d6.at (noCells (by decide +kernel)) rfl (rx_229r ok h b.er.ns h1 h2).out (Nat.le_refl 1)
theorem callx_229p (b : Base D Er Ep K w) {x : Str} (h : p229 x = .proto) : CallX (sysB D prog w K p loose mg mb) D.a6 [.str x, .tup [.str "here", .int 7]] Ep (.str x) := by
  have ok := okA (prog := prog) (p := p) (loose := loose) (mg := mg) (mb := mb) b
  obtain ⟨bm, B, nw, ini, h1, h2⟩ := b.ep.made
  exact CallX.of_run (Y := sysA D prog w K p loose mg mb) (l := 1) b.d6.at (noCells (by decide +kernel)) rfl (rx_229p ok h b.ep.ns h1 h2).out (Nat.le_refl 1)

theorem cw_257 (b : Base D Er Ep K w) (hr : Room 2 A) (XB : K.In base) (TB : Top p loose mean mg mb base) {l : List Nat} (hl : l.length < 2 ^ 19) (h3 : l.take 3 ≠ [50, 53, 55]) :
    CallW (sysC D prog w K p loose mg mb) A base outer D.a13 [.str (S l), .bool true] (.str (("code " : Str) ++ S l)) := by
  have ok := okB (prog := prog) (p := p) (loose := loose) (mg := mg) (mb := mb) b
  intro s W vals g hW r B DD
  have d := b.d13
  have hx := callx_257 (prog := prog) (p := p) (loose := loose) (mg := mg) (mb := mb) b h3
  conv at d in (kdAt 75) => whnf
  conv at d in (bodyAt 75) => whnf
  have hle : ("code " : Str).length + (S l).length ≤ 2 ^ 20 := by
    rw [S_len]; show 5 + l.length ≤ _; (first | lia | omega)
  have rv : ∀ tk (h' : Heap), VRep W h' (.str (("code " : Str) ++ S l)) (.str (("code " : Str) ++ S l) tk) := fun tk h' => .str (by rw [strLen_append]; exact hle)
  refine call_caught (Y := sysB D prog w K p loose mg mb) d.at (noCells rfl) rfl ?_
    (.hit b.er.ns b.rr rfl rfl) rfl (b.free "str" (by decide)) b.er.str b.er.base hle hr g hW r B XB TB DD fun h' tk tk' kw => ⟨h', tk', rfl, kw, rv tk h'⟩
  refine Vx.out ?_
  exact Vx.ifexp (Y := sysB D prog w K p loose mg mb) (n := 9) ok (b := true) (t_val rfl (r_name rfl) rfl) (Vx.call ok (n := 9) rfl rfl rfl (a_cons (r_name rfl) a_nil rfl) hx)
theorem cw_229r (b : Base D Er Ep K w) (hr : Room 2 A) (XB : K.In base) (TB : Top p loose mean mg mb base) {x : Str} (hl : x.length < 2 ^ 19) (h3 : p229 x = .reply) :
    CallW (sysC D prog w K p loose mg mb) A base outer D.a13 [.str x, .bool false] (.str (("code " : Str) ++ x)) := by
  have ok := okB (prog := prog) (p := p) (loose := loose) (mg := mg) (mb := mb) b
  intro s W vals g hW r B DD
  have d := b.d13
  have hx := callx_229r (prog := prog) (p := p) (loose := loose) (mg := mg) (mb := mb) b h3
  conv at d in (kdAt 75) => whnf
  conv at d in (bodyAt 75) => whnf
  have hle : ("code " : Str).length + x.length ≤ 2 ^ 20 := by
    show 5 + x.length ≤ _; (first | lia | omega)
  have rv : ∀ tk (h' : Heap), VRep W h' (.str (("code " : Str) ++ x)) (.str (("code " : Str) ++ x) tk) := fun tk h' => .str (by rw [strLen_append]; exact hle)
  refine call_caught (Y := sysB D prog w K p loose mg mb) d.at (noCells rfl) rfl ?_
    (.hit b.er.ns b.rr rfl rfl) rfl (b.free "str" (by decide)) b.er.str b.er.base hle hr g hW r B XB TB DD fun h' tk tk' kw => ⟨h', tk', rfl, kw, rv tk h'⟩
  refine Vx.out ?_
  exact Vx.ifexp (Y := sysB D prog w K p loose mg mb) (n := 9) ok (b := false) (t_val rfl (r_name rfl) rfl) (Vx.call ok (n := 9) rfl rfl rfl (a_cons (r_name rfl) (a_cons (r_tup (a_cons (r_str (by decide)) (a_cons r_int a_nil rfl) rfl) (by decide)) a_nil rfl) rfl) hx)
theorem cw_229p (b : Base D Er Ep K w) (hr : Room 2 A) (XB : K.In base) (TB : Top p loose mean mg mb base) {x : Str} (hl : x.length < 2 ^ 19) (h3 : p229 x = .proto) :
    CallW (sysC D prog w K p loose mg mb) A base outer D.a13 [.str x, .bool false] (.str (("form " : Str) ++ x)) := by
  have ok := okB (prog := prog) (p := p) (loose := loose) (mg := mg) (mb := mb) b
  intro s W vals g hW r B DD
  have d := b.d13
  have hx := callx_229p (prog := prog) (p := p) (loose := loose) (mg := mg) (mb := mb) b h3
  conv at d in (kdAt 75) => whnf
  conv at d in (bodyAt 75) => whnf
  have hle : ("form " : Str).length + x.length ≤ 2 ^ 20 := by
    show 5 + x.length ≤ _; (first | lia | omega)
  have rv : ∀ tk (h' : Heap), VRep W h' (.str (("form " : Str) ++ x)) (.str (("form " : Str) ++ x) tk) := fun tk h' => .str (by rw [strLen_append]; exact hle)
  refine call_caught (Y := sysB D prog w K p loose mg mb) d.at (noCells rfl) rfl ?_
    (.pass b.er.ns b.pr rfl (.hit b.ep.ns b.pp rfl rfl)) rfl (b.free "str" (by decide)) b.ep.str b.ep.base hle hr g hW r B XB TB DD fun h' tk tk' kw => ⟨h', tk', rfl, kw, rv tk h'⟩
  refine Vx.out ?_
  exact Vx.ifexp (Y := sysB D prog w K p loose mg mb) (n := 9) ok (b := false) (t_val rfl (r_name rfl) rfl) (Vx.call ok (n := 9) rfl rfl rfl (a_cons (r_name rfl) (a_cons (r_tup (a_cons (r_str (by decide)) (a_cons r_int a_nil rfl) rfl) (by decide)) a_nil rfl) rfl) hx)
end
end Mine
namespace Mine

theorem nand_half (m n : Nat) : (m &&& n) / 2 = (m / 2 &&& n / 2) := Nat.and_div_two
theorem nand_par (m n : Nat) : (m &&& n) % 2 = (if m % 2 = 1 ∧ n % 2 = 1 then 1 else 0) := by
  have h := Nat.testBit_and m n 0
  simp only [Nat.testBit_zero] at h
  have h2 : (decide ((m &&& n) % 2 = 1) = true) ↔ ((decide (m % 2 = 1) && decide (n % 2 = 1)) = true) := by rw [h]
  simp only [Bool.and_eq_true, decide_eq_true_eq] at h2
  split
  · rename_i hc; exact h2.mpr hc
  · rename_i hc
    have : ¬ (m &&& n) % 2 = 1 := fun e => hc (h2.mp e)
    (first | lia | omega)
theorem nor_half (m n : Nat) : (m ||| n) / 2 = (m / 2 ||| n / 2) := Nat.or_div_two
theorem nor_par (m n : Nat) : (m ||| n) % 2 = (if m % 2 = 1 ∨ n % 2 = 1 then 1 else 0) := by
  have h := Nat.testBit_or m n 0
  simp only [Nat.testBit_zero] at h
  have h2 : (decide ((m ||| n) % 2 = 1) = true) ↔ ((decide (m % 2 = 1) || decide (n % 2 = 1)) = true) := by rw [h]
  simp only [Bool.or_eq_true, decide_eq_true_eq] at h2
  split
  · rename_i hc; exact h2.mpr hc
  · rename_i hc
    have : ¬ (m ||| n) % 2 = 1 := fun e => hc (h2.mp e)
    (first | lia | omega)

theorem sub_half (m n : Nat) : (m - (m &&& n)) / 2 = m / 2 - (m / 2 &&& n / 2) ∧ (m - (m &&& n)) % 2 = m % 2 - (m &&& n) % 2 := by
  have h := nand_par m n
  have h1 : m &&& n ≤ m := Nat.and_le_left
  rw [← nand_half]
  have h2 : (m &&& n) % 2 ≤ m % 2 := by
    rw [h]
    split
    · rename_i hc; rw [hc.1]; exact Nat.le_refl 1
    · exact Nat.zero_le _
  clear h
  generalize (m &&& n) = z at h1 h2
  (first | lia | omega)
theorem bn_nat (n : Nat) : Builtin.bitNot (n : Int) = Int.negSucc n := by unfold Builtin.bitNot; rw [Int.negSucc_eq]; (first | lia | omega)
theorem bn_neg (n : Nat) : Builtin.bitNot (Int.negSucc n) = (n : Int) := by unfold Builtin.bitNot; rw [Int.negSucc_eq]; (first | lia | omega)
theorem neg_not (n : Nat) : ¬ (0 : Int) ≤ Int.negSucc n := fun h => by rw [Int.negSucc_eq] at h; (first | lia | omega)
theorem cast_sub (m z : Nat) (h : z ≤ m) : ((m : Int) - (z : Int)) = ((m - z : Nat) : Int) := (Int.ofNat_sub h).symm
theorem band_pp (m n : Nat) : Builtin.bitAnd (m : Int) (n : Int) = ((m &&& n : Nat) : Int) := bitAnd_pp (Int.natCast_nonneg _) (Int.natCast_nonneg _)
theorem band_pn (m n : Nat) : Builtin.bitAnd (m : Int) (Int.negSucc n) = ((m - (m &&& n) : Nat) : Int) := by
  rw [bitAnd_pn (Int.natCast_nonneg _) (neg_not _), bn_neg]
  exact cast_sub _ _ Nat.and_le_left
theorem band_np (m n : Nat) : Builtin.bitAnd (Int.negSucc m) (n : Int) = ((n - (n &&& m) : Nat) : Int) := by
  rw [bitAnd_np (neg_not _) (Int.natCast_nonneg _), bn_neg]
  exact cast_sub _ _ Nat.and_le_left
theorem band_nn (m n : Nat) : Builtin.bitAnd (Int.negSucc m) (Int.negSucc n) = Int.negSucc (m ||| n) := by
  rw [bitAnd_nn (neg_not _) (neg_not _), bn_neg, bn_neg, bn_nat]; rfl
theorem band_half (x y : Int) : Builtin.bitAnd x y / 2 = Builtin.bitAnd (x / 2) (y / 2) := by
  cases x with
  | ofNat m =>
    cases y with
    | ofNat n =>
      show Builtin.bitAnd (m : Int) (n : Int) / 2 = Builtin.bitAnd ((m / 2 : Nat) : Int) ((n / 2 : Nat) : Int)
      rw [band_pp, band_pp, ← nand_half]; rfl
    | negSucc n =>
      show Builtin.bitAnd (m : Int) (Int.negSucc n) / 2 = Builtin.bitAnd ((m / 2 : Nat) : Int) (Int.negSucc (n / 2))
      rw [band_pn, band_pn, ← (sub_half m n).1]; rfl
  | negSucc m =>
    cases y with
    | ofNat n =>
      show Builtin.bitAnd (Int.negSucc m) (n : Int) / 2 = Builtin.bitAnd (Int.negSucc (m / 2)) ((n / 2 : Nat) : Int)
      rw [band_np, band_np, ← (sub_half n m).1]; rfl
    | negSucc n =>
      show Builtin.bitAnd (Int.negSucc m) (Int.negSucc n) / 2 = Builtin.bitAnd (Int.negSucc (m / 2)) (Int.negSucc (n / 2))
      rw [band_nn, band_nn, ← nor_half]; rfl

/-- the i-th figure -/
noncomputable def tbit : Int → Nat → Bool
  | x, 0 => x % 2 == 1
  | x, i + 1 => tbit (x / 2) i
theorem tbit_div : ∀ (i : Nat) (x : Int), tbit x i = (x / 2 ^ i % 2 == 1)
  | 0, x => by simp [tbit]
  | i + 1, x => by
    rw [tbit, tbit_div i (x / 2), Int.ediv_ediv_of_nonneg (by decide), Int.pow_succ, Int.mul_comm]
theorem bitF_eq (x : Int) (i : Nat) : bitF x i = tbit x i := by
  unfold bitF
  rw [bitAnd_m1, tbit_div, Int.fdiv_eq_ediv_of_nonneg _ (Int.le_of_lt (Int.pow_pos (by decide)))]
  have := Int.emod_two_eq (x / 2 ^ i)
  rcases this with h | h <;> rw [h] <;> rfl
theorem bitI_eq (x : Int) (i : Nat) : Builtin.bitAnd (x.fdiv (2 ^ i)) 1 = if tbit x i = true then 1 else 0 := by
  rw [bitAnd_m1, tbit_div, Int.fdiv_eq_ediv_of_nonneg _ (Int.le_of_lt (Int.pow_pos (by decide)))]
  have := Int.emod_two_eq (x / 2 ^ i)
  rcases this with h | h <;> rw [h] <;> rfl
theorem tb0_nat (m : Nat) : tbit (m : Int) 0 = (m % 2 == 1) := by
  show ((m : Int) % 2 == 1) = (m % 2 == 1)
  rw [show (m : Int) % 2 = ((m % 2 : Nat) : Int) from rfl]
  rcases Nat.mod_two_eq_zero_or_one m with h | h <;> rw [h] <;> rfl
theorem tb0_neg (m : Nat) : tbit (Int.negSucc m) 0 = !(m % 2 == 1) := by
  show (Int.negSucc m % 2 == 1) = !(m % 2 == 1)
  have e : Int.negSucc m % 2 = 1 - ((m % 2 : Nat) : Int) := by rw [Int.negSucc_eq]; (first | lia | omega)
  rw [e]
  rcases Nat.mod_two_eq_zero_or_one m with h | h <;> rw [h] <;> rfl
theorem par_and (m n : Nat) : ((m &&& n) % 2 == 1) = ((m % 2 == 1) && (n % 2 == 1)) := by
  rw [nand_par]
  rcases Nat.mod_two_eq_zero_or_one m with h | h <;> rcases Nat.mod_two_eq_zero_or_one n with h' | h' <;> rw [h, h'] <;> rfl
theorem par_or (m n : Nat) : ((m ||| n) % 2 == 1) = ((m % 2 == 1) || (n % 2 == 1)) := by
  rw [nor_par]
  rcases Nat.mod_two_eq_zero_or_one m with h | h <;> rcases Nat.mod_two_eq_zero_or_one n with h' | h' <;> rw [h, h'] <;> rfl
theorem par_sub (m n : Nat) : ((m - (m &&& n)) % 2 == 1) = ((m % 2 == 1) && !(n % 2 == 1)) := by
  rw [(sub_half m n).2, nand_par]
  rcases Nat.mod_two_eq_zero_or_one m with h | h <;> rcases Nat.mod_two_eq_zero_or_one n with h' | h' <;> rw [h, h'] <;> rfl
theorem tbit_and : ∀ (i : Nat) (x y : Int), tbit (Builtin.bitAnd x y) i = (tbit x i && tbit y i)
  | 0, x, y => by
    cases x with
    | ofNat m =>
      cases y with
      | ofNat n => exact (congrArg (tbit · 0) (band_pp m n)).trans (((tb0_nat _).trans (par_and m n)).trans (congr (congrArg and (tb0_nat m)) (tb0_nat n)).symm)
      | negSucc n => exact (congrArg (tbit · 0) (band_pn m n)).trans (((tb0_nat _).trans (par_sub m n)).trans (congr (congrArg and (tb0_nat m)) (tb0_neg n)).symm)
    | negSucc m =>
      cases y with
      | ofNat n => exact (congrArg (tbit · 0) (band_np m n)).trans (((tb0_nat _).trans (par_sub n m)).trans ((Bool.and_comm _ _).trans (congr (congrArg and (tb0_neg m)) (tb0_nat n)).symm))
      | negSucc n => exact (congrArg (tbit · 0) (band_nn m n)).trans (((tb0_neg _).trans ((congrArg not (par_or m n)).trans (Bool.not_or _ _))).trans (congr (congrArg and (tb0_neg m)) (tb0_neg n)).symm)
  | i + 1, x, y => by
    rw [tbit, tbit, tbit, band_half, tbit_and i]
theorem not_half (x : Int) : Builtin.bitNot x / 2 = Builtin.bitNot (x / 2) := by
  cases x with
  | ofNat m => exact (congrArg (· / 2) (bn_nat m)).trans (bn_nat (m / 2)).symm
  | negSucc m => exact (congrArg (· / 2) (bn_neg m)).trans (bn_neg (m / 2)).symm
theorem tbit_not : ∀ (i : Nat) (x : Int), tbit (Builtin.bitNot x) i = !tbit x i
  | 0, x => by
    cases x with
    | ofNat m => exact (congrArg (tbit · 0) (bn_nat m)).trans ((tb0_neg m).trans (congrArg not (tb0_nat m)).symm)
    | negSucc m => exact (congrArg (tbit · 0) (bn_neg m)).trans ((tb0_nat m).trans ((Bool.not_not _).symm.trans (congrArg not (tb0_neg m)).symm))
  | i + 1, x => by
    rw [tbit, tbit, ← tbit_not i, not_half]
theorem tbit_xor : ∀ (i : Nat) (x y : Int), tbit (Builtin.bitXor x y) i = (tbit x i != tbit y i)
  | 0, x, y => by
    unfold tbit
    have : Builtin.bitXor x y % 2 = (x % 2 + y % 2) % 2 := by rw [bitXor_and]; (first | lia | omega)
    rw [this]
    rcases Int.emod_two_eq x with h1 | h1 <;> rcases Int.emod_two_eq y with h2 | h2 <;> rw [h1, h2] <;> rfl
  | i + 1, x, y => by
    have h : Builtin.bitXor x y / 2 = Builtin.bitXor (x / 2) (y / 2) := by
      have hp : (x % 2 + y % 2) / 2 = Builtin.bitAnd x y % 2 := by
        have h0 := tbit_and 0 x y
        unfold tbit at h0
        rcases Int.emod_two_eq x with h1 | h1 <;> rcases Int.emod_two_eq y with h2 | h2 <;> rcases Int.emod_two_eq (Builtin.bitAnd x y) with h3 | h3 <;> rw [h1, h2, h3] at h0 <;> rw [h1, h2, h3] <;> first | rfl | cases h0
      rw [bitXor_and, bitXor_and, ← band_half]
      generalize Builtin.bitAnd x y = z at hp
      (first | lia | omega)
    rw [tbit, tbit, tbit, h, tbit_xor i]
theorem tbit_m1 : ∀ i : Nat, tbit (-1) i = true
  | 0 => rfl
  | i + 1 => by rw [tbit]; exact tbit_m1 i
theorem tbit_0 : ∀ i : Nat, tbit 0 i = false
  | 0 => rfl
  | i + 1 => by rw [tbit]; exact tbit_0 i
theorem tbit_full {i : Nat} (h : i < 32) : tbit 4294967295 i = true := by
  have : ((List.range 32).all fun i => tbit 4294967295 i) = true := by decide +kernel
  exact List.all_eq_true.mp this i (List.mem_range.mpr h)
end Mine
namespace Mine

/-- the ten columns: five, and their complements -/
noncomputable def colN : Nat → Nat
  | 0 => 1431655765 | 1 => 858993459 | 2 => 252645135 | 3 => 16711935 | 4 => 65535
  | 5 => 2863311530 | 6 => 3435973836 | 7 => 4042322160 | 8 => 4278255360 | _ => 4294901760
/-- the literal a figure stands for, at a turn -/
noncomputable def litE (t d : Nat) : Nat := (d + t) % 5 + (if d < 5 then 0 else 5)
noncomputable def litB (t d i : Nat) : Bool := (colN (litE t d)).testBit i
noncomputable def conjB (t : Nat) (ds : List Nat) (i : Nat) : Bool := ds.all fun d => litB t d i
noncomputable def wt (f : Nat → Bool) : Nat := (List.range 32).countP f
noncomputable def popc (x : Nat) : Nat := wt fun i => x.testBit i
noncomputable def chk : List Nat → Nat → Nat → Bool
  | [], x, c => popc x % 2 ^ (5 - c) == 0
  | col :: r, x, c => chk r x c && chk r (x &&& col) (c + 1)
theorem chk_all : chk ((List.range 10).map colN) 4294967295 0 = true := by decide +kernel
noncomputable def andSel : List Nat → (Nat → Bool) → Nat → Nat
  | [], _, x => x
  | e :: r, f, x => andSel r f (if f e = true then x &&& colN e else x)
theorem chk_sel (f : Nat → Bool) : ∀ (es : List Nat) (x c : Nat), chk (es.map colN) x c = true → popc (andSel es f x) % 2 ^ (5 - (c + es.countP f)) = 0
  | [], x, c, h => by simpa [chk, andSel] using h
  | e :: r, x, c, h => by
    simp only [List.map_cons, chk, Bool.and_eq_true] at h
    unfold andSel
    cases hf : f e with
    | true =>
      rw [if_pos rfl, List.countP_cons_of_pos hf, show c + (r.countP f + 1) = c + 1 + r.countP f by (first | lia | omega)]
      exact chk_sel f r _ _ h.2
    | false =>
      rw [if_neg (by decide), List.countP_cons_of_neg (by simp [hf])]
      exact chk_sel f r _ _ h.1
theorem andSel_bit (f : Nat → Bool) (i : Nat) : ∀ (es : List Nat) (x : Nat), (andSel es f x).testBit i = (x.testBit i && es.all fun e => !f e || (colN e).testBit i)
  | [], x => by simp [andSel]
  | e :: r, x => by
    unfold andSel
    rw [andSel_bit f i r]
    cases hf : f e with
    | true => simp [hf, Nat.testBit_and, Bool.and_assoc]
    | false => simp [hf]
theorem countP_congr' {f g : Nat → Bool} : ∀ {l : List Nat}, (∀ x ∈ l, f x = g x) → l.countP f = l.countP g
  | [], _ => rfl
  | a :: l, h => by
    rw [List.countP_cons, List.countP_cons, countP_congr' (fun x hx => h x (List.mem_cons_of_mem _ hx)), h a List.mem_cons_self]
theorem wt_congr {f g : Nat → Bool} (h : ∀ i, i < 32 → f i = g i) : wt f = wt g := countP_congr' fun i hi => h i (List.mem_range.mp hi)
theorem full_bit {i : Nat} (h : i < 32) : (4294967295 : Nat).testBit i = true := by
  have : ((List.range 32).all fun i => (4294967295 : Nat).testBit i) = true := by decide +kernel
  exact List.all_eq_true.mp this i (List.mem_range.mpr h)
theorem litE_lt (t d : Nat) : litE t d < 10 := by unfold litE; split <;> (first | lia | omega)
theorem cnt_le (t : Nat) : ∀ ds : List Nat, (List.range 10).countP (fun e => ds.any fun d => litE t d == e) ≤ ds.length
  | [] => by simp
  | d :: ds => by
    have ih := cnt_le t ds
    simp only [List.any_cons]
    have h1 : ∀ l : List Nat, l.countP (fun e => litE t d == e || ds.any fun d => litE t d == e) ≤ l.countP (fun e => litE t d == e) + l.countP (fun e => ds.any fun d => litE t d == e) := by
      intro l
      induction l with
      | nil => simp
      | cons e l ih =>
        rw [List.countP_cons, List.countP_cons, List.countP_cons]
        cases litE t d == e <;> cases ds.any (fun d => litE t d == e) <;> simp <;> (first | lia | omega)
    have h2 : (List.range 10).countP (fun e => litE t d == e) ≤ 1 := by
      have := litE_lt t d
      generalize litE t d = e at this
      exact (show ∀ e, e < 10 → (List.range 10).countP (fun x => e == x) ≤ 1 by decide) e this
    have := h1 (List.range 10)
    simp only [List.length_cons]
    (first | lia | omega)
theorem wt_conj (t : Nat) (ds : List Nat) : 2 ^ (5 - ds.length) ∣ wt (conjB t ds) := by
  have h := chk_sel (fun e => ds.any fun d => litE t d == e) (List.range 10) 4294967295 0 chk_all
  rw [Nat.zero_add] at h
  have e : popc (andSel (List.range 10) (fun e => ds.any fun d => litE t d == e) 4294967295) = wt (conjB t ds) := by
    refine wt_congr fun i hi => ?_
    rw [andSel_bit, full_bit hi, Bool.true_and]
    unfold conjB litB
    rw [Bool.eq_iff_iff]
    simp only [List.all_eq_true, Bool.or_eq_true, Bool.not_eq_true', List.any_eq_false, beq_iff_eq, List.mem_range]
    constructor
    · intro h d hd
      rcases h (litE t d) (litE_lt t d) with h | h
      · exact absurd rfl (h d hd)
      · exact h
    · intro h e _
      by_cases he : ∃ d ∈ ds, litE t d = e
      · obtain ⟨d, hd, rfl⟩ := he
        exact .inr (h d hd)
      · exact .inl fun d hd hde => he ⟨d, hd, hde⟩
  rw [e] at h
  have hc := cnt_le t ds
  exact Nat.dvd_trans (Nat.pow_dvd_pow 2 (by (first | lia | omega))) (Nat.dvd_of_mod_eq_zero h)

noncomputable def xorB (t : Nat) : List (List Nat) → Nat → Bool
  | [], _ => false
  | P :: Ps, i => conjB t P i != xorB t Ps i
theorem count_xor (Q P R : Nat → Bool) : ∀ l : List Nat, l.countP (fun i => Q i && (P i != R i)) + 2 * l.countP (fun i => (Q i && P i) && R i) = l.countP (fun i => Q i && P i) + l.countP (fun i => Q i && R i)
  | [] => rfl
  | a :: l => by
    have ih := count_xor Q P R l
    simp only [List.countP_cons]
    cases Q a <;> cases P a <;> cases R a <;> simp <;> (first | lia | omega)
theorem div_W (t s e : Nat) (hse : ∀ j, e ≤ j + (5 - s * (j + 1))) : ∀ (Ps : List (List Nat)), (∀ P ∈ Ps, P.length ≤ s) → ∀ (j : Nat) (Q : List Nat), Q.length ≤ s * j → 2 ^ e ∣ 2 ^ j * wt (fun i => conjB t Q i && xorB t Ps i)
  | [], _, j, Q, _ => by
    have : wt (fun i => conjB t Q i && xorB t [] i) = 0 := by
      unfold wt xorB
      simp
    rw [this]; simp
  | P :: Ps, hP, j, Q, hQ => by
    have hP1 := hP P List.mem_cons_self
    have hlen : (Q ++ P).length ≤ s * (j + 1) := by rw [List.length_append, Nat.mul_add]; (first | lia | omega)
    have ih1 := div_W t s e hse Ps (fun P h => hP P (List.mem_cons_of_mem _ h)) j Q hQ
    have ih2 := div_W t s e hse Ps (fun P h => hP P (List.mem_cons_of_mem _ h)) (j + 1) (Q ++ P) hlen
    have hc := wt_conj t (Q ++ P)
    have hcj : ∀ i, conjB t (Q ++ P) i = (conjB t Q i && conjB t P i) := fun i => by unfold conjB; rw [List.all_append]
    have e1 : wt (conjB t (Q ++ P)) = wt (fun i => conjB t Q i && conjB t P i) := wt_congr fun i _ => hcj i
    have e2 : wt (fun i => conjB t (Q ++ P) i && xorB t Ps i) = wt (fun i => (conjB t Q i && conjB t P i) && xorB t Ps i) := wt_congr fun i _ => by rw [hcj]
    rw [e1] at hc
    rw [e2] at ih2
    have hx := count_xor (conjB t Q) (conjB t P) (xorB t Ps) (List.range 32)
    have hx : wt (fun i => conjB t Q i && xorB t (P :: Ps) i) + 2 * wt (fun i => (conjB t Q i && conjB t P i) && xorB t Ps i) = wt (fun i => conjB t Q i && conjB t P i) + wt (fun i => conjB t Q i && xorB t Ps i) := hx
    have h1 : 2 ^ e ∣ 2 ^ j * wt (fun i => conjB t Q i && conjB t P i) := by
      refine Nat.dvd_trans (Nat.pow_dvd_pow 2 (hse j)) ?_
      rw [Nat.pow_add]
      exact Nat.mul_dvd_mul_left _ (Nat.dvd_trans (Nat.pow_dvd_pow 2 (by (first | lia | omega))) hc)
    have hm := congrArg (2 ^ j * ·) hx
    simp only [Nat.mul_add] at hm
    rw [← Nat.mul_assoc, show 2 ^ j * 2 = 2 ^ (j + 1) from rfl] at hm
    have hs := Nat.dvd_add h1 ih1
    rw [← hm] at hs
    exact (Nat.dvd_add_left ih2).mp hs
theorem div_size (t s : Nat) (hs : 1 ≤ s) (hs4 : s ≤ 4) (Ps : List (List Nat)) (hP : ∀ P ∈ Ps, P.length ≤ s) : 2 ^ (4 / s) ∣ wt (xorB t Ps) := by
  have h : ∀ j, 4 / s ≤ j + (5 - s * (j + 1)) := by
    intro j
    have : s = 1 ∨ s = 2 ∨ s = 3 ∨ s = 4 := by (first | lia | omega)
    rcases this with rfl | rfl | rfl | rfl <;> (first | lia | omega)
  have := div_W t s (4 / s) h Ps hP 0 [] (Nat.zero_le _)
  rw [Nat.pow_zero, Nat.one_mul] at this
  exact this
end Mine
namespace Mine

noncomputable def joinN (sep : List Nat) : List (List Nat) → List Nat
  | [] => []
  | [a] => a
  | a :: b :: r => a ++ sep ++ joinN sep (b :: r)
noncomputable def litT (d : Nat) : List Nat := (if d > 4 then [126] else []) ++ [97 + d % 5]
noncomputable def textT (ds : List Nat) : List Nat := joinN [38] (ds.map litT)
/-- the number of a sign -/
noncomputable def symV (c : Nat) : Int := if 97 ≤ c ∧ c ≤ 101 then 256 + ((c - 97 : Nat) : Int) else if c = 126 then 31 else if c = 38 then 19 else if c = 94 then 32 else 255
noncomputable def colsT (t : Nat) : List Int := (List.range 5).map fun (k : Nat) => colF ((k : Int) + t)
noncomputable def litV (t d : Nat) : Int := if d > 4 then Builtin.bitNot (colF (((d % 5 : Nat) : Int) + t)) else colF (((d % 5 : Nat) : Int) + t)
noncomputable def prodV (t : Nat) (p : Int) (ds : List Nat) : Int := ds.foldl (fun p d => Builtin.bitAnd p (litV t d)) p
noncomputable def vc (t : Nat) (st : VSt) (c : Nat) : VSt := vStep (colsT t) st (symV c)

theorem colAt_cols (t k : Nat) (h : k < 5) : colAt (colsT t) (256 + (k : Int)) = colF ((k : Int) + t) := by
  unfold colAt colsT
  have : (256 + (k : Int) - 256).toNat = k := by (first | lia | omega)
  rw [this]
  have e : ((List.range 5).map fun (k : Nat) => colF ((k : Int) + t))[k]? = some (colF ((k : Int) + t)) := by
    rw [List.getElem?_map, List.getElem?_range h]; rfl
  rw [List.getD_eq_getElem?_getD, e]; rfl
theorem symV_letter (k : Nat) (h : k < 5) : symV (97 + k) = 256 + (k : Int) := by
  unfold symV
  rw [if_pos (by (first | lia | omega))]
  have : 97 + k - 97 = k := by (first | lia | omega)
  rw [this]
theorem vc_letter (t k : Nat) (h : k < 5) (vals : List Int) (v p : Int) (tr : Bool) : vc t ⟨vals, v, p, tr⟩ (97 + k) = ⟨vals, v, Builtin.bitAnd p (if tr = true then Builtin.bitNot (colF ((k : Int) + t)) else colF ((k : Int) + t)), false⟩ := by
  unfold vc
  rw [symV_letter k h]
  unfold vStep
  rw [if_pos (by (first | lia | omega)), colAt_cols t k h]
theorem vc_tilde (t : Nat) (vals : List Int) (v p : Int) (tr : Bool) : vc t ⟨vals, v, p, tr⟩ 126 = ⟨vals, v, p, true⟩ := rfl
theorem vc_amp (t : Nat) (st : VSt) : vc t st 38 = st := rfl
theorem vc_hat (t : Nat) (vals : List Int) (v p : Int) (tr : Bool) : vc t ⟨vals, v, p, tr⟩ 94 = ⟨vals, Builtin.bitXor v p, -1, tr⟩ := rfl
theorem vc_quote (t : Nat) (vals : List Int) (v p : Int) (tr : Bool) : vc t ⟨vals, v, p, tr⟩ 34 = ⟨vals ++ [Builtin.bitAnd (Builtin.bitXor v p) 4294967295], 0, -1, tr⟩ := rfl
theorem fold_lit (t d : Nat) (vals : List Int) (v p : Int) : (litT d).foldl (vc t) ⟨vals, v, p, false⟩ = ⟨vals, v, Builtin.bitAnd p (litV t d), false⟩ := by
  have h5 : d % 5 < 5 := Nat.mod_lt _ (by decide)
  unfold litT litV
  by_cases h : d > 4
  · rw [if_pos h, if_pos h]
    show vc t (vc t _ 126) (97 + d % 5) = _
    rw [vc_tilde, vc_letter t _ h5]; rfl
  · rw [if_neg h, if_neg h]
    show vc t _ (97 + d % 5) = _
    rw [vc_letter t _ h5]; rfl
theorem fold_text (t : Nat) : ∀ (ds : List Nat) (vals : List Int) (v p : Int), (textT ds).foldl (vc t) ⟨vals, v, p, false⟩ = ⟨vals, v, prodV t p ds, false⟩
  | [], _, _, _ => rfl
  | [d], vals, v, p => fold_lit t d vals v p
  | d :: e :: r, vals, v, p => by
    show (litT d ++ [38] ++ textT (e :: r)).foldl (vc t) _ = _
    rw [List.foldl_append, List.foldl_append, fold_lit, show ∀ st, ([38] : List Nat).foldl (vc t) st = st from fun st => vc_amp t st, fold_text t (e :: r)]; rfl

noncomputable def formA (T0 T1 T2 : List Nat) : List Nat := joinN [94] [textT T0, textT T1, textT T2]
noncomputable def formB (T3 T4 : List Nat) : List Nat := joinN [94] [textT T3, textT T4]
noncomputable def val0 (t : Nat) (T0 T1 T2 : List Nat) : Int := Builtin.bitAnd (Builtin.bitXor (Builtin.bitXor (Builtin.bitXor 0 (prodV t (-1) T0)) (prodV t (-1) T1)) (prodV t (-1) T2)) 4294967295
noncomputable def val1 (t : Nat) (T3 T4 : List Nat) : Int := Builtin.bitAnd (Builtin.bitXor (Builtin.bitXor 0 (prodV t (-1) T3)) (prodV t (-1) T4)) 4294967295
theorem fold_all (t : Nat) (T0 T1 T2 T3 T4 : List Nat) : ((formA T0 T1 T2 ++ 34 :: formB T3 T4).map symV ++ [0]).foldl (vStep (colsT t)) ⟨[], 0, -1, false⟩ = ⟨[val0 t T0 T1 T2, val1 t T3 T4], 0, -1, false⟩ := by
  rw [List.foldl_append, List.foldl_map]
  have hA : formA T0 T1 T2 = textT T0 ++ [94] ++ (textT T1 ++ [94] ++ textT T2) := rfl
  have hB : formB T3 T4 = textT T3 ++ [94] ++ textT T4 := rfl
  have hat : ∀ st, ([94] : List Nat).foldl (vc t) st = vc t st 94 := fun _ => rfl
  have : (formA T0 T1 T2 ++ 34 :: formB T3 T4).foldl (vc t) ⟨[], 0, -1, false⟩ = ⟨[val0 t T0 T1 T2], Builtin.bitXor 0 (prodV t (-1) T3), prodV t (-1) T4, false⟩ := by
    have h1 : (formA T0 T1 T2).foldl (vc t) ⟨[], 0, -1, false⟩ = ⟨[], Builtin.bitXor (Builtin.bitXor 0 (prodV t (-1) T0)) (prodV t (-1) T1), prodV t (-1) T2, false⟩ := by
      simp only [hA, List.foldl_append, fold_text, hat, vc_hat]
    have h2 : ∀ vals : List Int, (formB T3 T4).foldl (vc t) ⟨vals, 0, -1, false⟩ = ⟨vals, Builtin.bitXor 0 (prodV t (-1) T3), prodV t (-1) T4, false⟩ := by
      intro vals
      simp only [hB, List.foldl_append, fold_text, hat, vc_hat]
    rw [List.foldl_append, List.foldl_cons, h1, vc_quote, h2]
    rfl
  show [(0 : Int)].foldl (vStep (colsT t)) ((formA T0 T1 T2 ++ 34 :: formB T3 T4).foldl (vc t) ⟨[], 0, -1, false⟩) = _
  rw [this]
  rfl

/-! figures -/
theorem colK_bit {j i : Nat} (hj : j < 5) (hi : i < 32) : tbit (colK j) i = (colN j).testBit i ∧ (colN (j + 5)).testBit i = !(colN j).testBit i ∧ tbit (4294967295 - colK j) i = !(colN j).testBit i := by
  have : ((List.range 5).all fun j => (List.range 32).all fun i => (tbit (colK j) i == (colN j).testBit i) && ((colN (j + 5)).testBit i == !(colN j).testBit i) && (tbit (4294967295 - colK j) i == !(colN j).testBit i)) = true := by decide +kernel
  have := List.all_eq_true.mp (List.all_eq_true.mp this j (List.mem_range.mpr hj)) i (List.mem_range.mpr hi)
  simp only [Bool.and_eq_true, beq_iff_eq] at this
  exact ⟨this.1.1, this.1.2, this.2⟩
theorem colF_nat (n : Nat) : colF (n : Int) = colK (n % 5) := by
  unfold colF
  have : ((n : Int).fmod 5).toNat = n % 5 := by
    rw [Int.fmod_eq_emod_of_nonneg _ (by decide)]; (first | lia | omega)
  rw [this]
theorem litV_bit (t d : Nat) (hd : d < 10) {i : Nat} (hi : i < 32) : tbit (litV t d) i = litB t d i := by
  have e : (((d % 5 : Nat) : Int) + t) = ((d % 5 + t : Nat) : Int) := by (first | lia | omega)
  have hm : (d % 5 + t) % 5 = (d + t) % 5 := by (first | lia | omega)
  have h5 : (d + t) % 5 < 5 := Nat.mod_lt _ (by decide)
  obtain ⟨h1, h2, h3⟩ := colK_bit h5 hi
  unfold litV litB litE
  rw [e, colF_nat, hm]
  by_cases h : d > 4
  · rw [if_pos h, if_neg (by (first | lia | omega)), tbit_not, h1, h2]
  · rw [if_neg h, if_pos (by (first | lia | omega)), h1, Nat.add_zero]
theorem prodV_bit (t : Nat) {i : Nat} (hi : i < 32) : ∀ (ds : List Nat) (p : Int), (∀ d ∈ ds, d < 10) → tbit (prodV t p ds) i = (tbit p i && conjB t ds i)
  | [], p, _ => by simp [prodV, conjB]
  | d :: ds, p, h => by
    show tbit (prodV t (Builtin.bitAnd p (litV t d)) ds) i = _
    rw [prodV_bit t hi ds _ (fun e he => h e (List.mem_cons_of_mem _ he)), tbit_and, litV_bit t d (h d List.mem_cons_self) hi]
    unfold conjB
    rw [List.all_cons, Bool.and_assoc]
theorem litI_bit (t d : Nat) (hd : d < 10) {i : Nat} (hi : i < 32) : tbit (litI t d) i = litB t d i := by
  have e : ((d : Int) + t) = ((d + t : Nat) : Int) := by (first | lia | omega)
  have h5 : (d + t) % 5 < 5 := Nat.mod_lt _ (by decide)
  obtain ⟨h1, h2, h3⟩ := colK_bit h5 hi
  unfold litI litB litE
  rw [e, colF_nat]
  by_cases h : d < 5
  · rw [if_pos (by (first | lia | omega)), if_pos h, h1, Nat.add_zero]
  · rw [if_neg (by (first | lia | omega)), if_neg h, h3, h2]
noncomputable def digI (ds : List Nat) : List Int := ds.map fun (d : Nat) => (d : Int)
theorem prodI_bit (t : Nat) {i : Nat} (hi : i < 32) : ∀ (ds : List Nat) (p : Int), (∀ d ∈ ds, d < 10) → tbit ((digI ds).foldl (fun p f => Builtin.bitAnd p (litI t f)) p) i = (tbit p i && conjB t ds i)
  | [], p, _ => by simp [digI, conjB]
  | d :: ds, p, h => by
    show tbit ((digI ds).foldl _ (Builtin.bitAnd p (litI t d))) i = _
    rw [prodI_bit t hi ds _ (fun e he => h e (List.mem_cons_of_mem _ he)), tbit_and, litI_bit t d (h d List.mem_cons_self) hi]
    unfold conjB
    rw [List.all_cons, Bool.and_assoc]
theorem valI_bit (t : Nat) {i : Nat} (hi : i < 32) : ∀ (Ts : List (List Nat)) (v : Int), (∀ ds ∈ Ts, ∀ d ∈ ds, d < 10) → tbit ((Ts.map digI).foldl (fun v t' => Builtin.bitXor v (prodI t t')) v) i = (tbit v i != xorB t Ts i)
  | [], v, _ => by simp [xorB]
  | ds :: Ts, v, h => by
    show tbit ((Ts.map digI).foldl _ (Builtin.bitXor v (prodI t (digI ds)))) i = _
    rw [valI_bit t hi Ts _ (fun e he => h e (List.mem_cons_of_mem _ he)), tbit_xor]
    have := prodI_bit t hi ds 4294967295 (h ds List.mem_cons_self)
    rw [tbit_full hi, Bool.true_and] at this
    rw [show prodI (t : Int) (digI ds) = (digI ds).foldl (fun p f => Builtin.bitAnd p (litI t f)) 4294967295 from rfl, this]
    rw [show xorB t (ds :: Ts) i = (conjB t ds i != xorB t Ts i) from rfl]
    cases tbit v i <;> cases conjB t ds i <;> cases xorB t Ts i <;> rfl
theorem sum_wt (f : Nat → Bool) : ∀ l : List Nat, (l.map fun i => if f i = true then (1 : Int) else 0).sum = (l.countP f : Int)
  | [] => rfl
  | a :: l => by
    rw [List.map_cons, List.sum_cons, sum_wt f l, List.countP_cons]
    cases f a <;> simp <;> (first | lia | omega)
theorem bitsI_eq (x : Int) : bitsI x = (wt fun i => tbit x i : Nat) := by
  unfold bitsI wt
  rw [← sum_wt]
  congr 1
  apply List.map_congr_left
  intro i _
  exact bitI_eq x i
theorem cases_eq (t : Nat) (Ts : List (List Nat)) (h : ∀ ds ∈ Ts, ∀ d ∈ ds, d < 10) : bitsI (valI t (Ts.map digI)) = (wt (xorB t Ts) : Nat) := by
  rw [bitsI_eq]
  congr 1
  refine wt_congr fun i hi => ?_
  unfold valI
  rw [valI_bit t hi Ts 0 h, tbit_0]
  simp
theorem val_bit (t : Nat) (T0 T1 T2 T3 T4 : List Nat) (h : ∀ ds ∈ [T0, T1, T2, T3, T4], ∀ d ∈ ds, d < 10) {i : Nat} (hi : i < 32) : (tbit (val0 t T0 T1 T2) i != tbit (val1 t T3 T4) i) = xorB t [T0, T1, T2, T3, T4] i := by
  unfold val0 val1
  rw [tbit_and, tbit_and, tbit_full hi, tbit_xor, tbit_xor, tbit_xor, tbit_xor, tbit_xor, tbit_0, prodV_bit t hi _ _ (h T0 (by simp)), prodV_bit t hi _ _ (h T1 (by simp)), prodV_bit t hi _ _ (h T2 (by simp)), prodV_bit t hi _ _ (h T3 (by simp)), prodV_bit t hi _ _ (h T4 (by simp)), tbit_m1]
  unfold xorB xorB xorB xorB xorB xorB
  cases conjB t T0 i <;> cases conjB t T1 i <;> cases conjB t T2 i <;> cases conjB t T3 i <;> cases conjB t T4 i <;> rfl
end Mine
namespace Mine

noncomputable def wN (a b c d : Bool) : List Nat := [if a = true then 65 else 97, if b = true then 66 else 98, if c = true then 67 else 99, if d = true then 68 else 100]
noncomputable def b2 (a b : Bool) : Int := if (a != b) = true then 1 else 0
noncomputable def ham (a b c d e f g h : Bool) : Int := b2 a e + b2 b f + b2 c g + b2 d h
noncomputable def allB (p : Bool → Bool) : Bool := p false && p true
theorem allB_of {p : Bool → Bool} (h : allB p = true) (a : Bool) : p a = true := by
  unfold allB at h
  simp only [Bool.and_eq_true] at h
  cases a
  · exact h.1
  · exact h.2
noncomputable def chkW (p : Bool → Bool → Bool → Bool → Bool → Bool → Bool → Bool → Bool) : Bool := allB fun a => allB fun b => allB fun c => allB fun d => allB fun e => allB fun f => allB fun g => allB fun h => p a b c d e f g h
theorem chkW_of {p : Bool → Bool → Bool → Bool → Bool → Bool → Bool → Bool → Bool} (hh : chkW p = true) (a b c d e f g h : Bool) : p a b c d e f g h = true :=
  allB_of (allB_of (allB_of (allB_of (allB_of (allB_of (allB_of (allB_of hh a) b) c) d) e) f) g) h
theorem lev1_chk : chkW (fun a b c d e f g h => lev (wN a b c d) (wN e f g h) 4 == ham a b c d e f g h) = true := by decide +kernel
theorem lev2_chk : chkW (fun a b c d e f g h => lev (121 :: wN a b c d) (122 :: wN e f g h) 6 == ham a b c d e f g h + 2) = true := by decide +kernel
theorem lev3_chk : chkW (fun a b c d e f g h => lev (wN a b c d) ((wN e f g h).take 2 ++ [122] ++ (wN e f g h).drop 2) 6 == ham a b c d e f g h + 2) = true := by decide +kernel
theorem lev1 (a b c d e f g h : Bool) : lev (wN a b c d) (wN e f g h) 4 = ham a b c d e f g h := beq_iff_eq.mp (chkW_of lev1_chk a b c d e f g h)
theorem lev2 (a b c d e f g h : Bool) : lev (121 :: wN a b c d) (122 :: wN e f g h) 6 = ham a b c d e f g h + 2 := beq_iff_eq.mp (chkW_of lev2_chk a b c d e f g h)
theorem lev3 (a b c d e f g h : Bool) : lev (wN a b c d) ((wN e f g h).take 2 ++ [122] ++ (wN e f g h).drop 2) 6 = ham a b c d e f g h + 2 := beq_iff_eq.mp (chkW_of lev3_chk a b c d e f g h)
noncomputable def wT (x : Int) (q : Nat) : List Nat := wN (tbit x (4 * q)) (tbit x (4 * q + 1)) (tbit x (4 * q + 2)) (tbit x (4 * q + 3))
theorem wordF_S (x : Int) (q : Nat) : wordF x q = S (wT x q) := by
  unfold wordF wT
  rw [bitF_eq, bitF_eq, bitF_eq, bitF_eq]
  cases tbit x (4 * q) <;> cases tbit x (4 * q + 1) <;> cases tbit x (4 * q + 2) <;> cases tbit x (4 * q + 3) <;> rfl
noncomputable def hamT (x y : Int) (q : Nat) : Int := ham (tbit x (4 * q)) (tbit x (4 * q + 1)) (tbit x (4 * q + 2)) (tbit x (4 * q + 3)) (tbit y (4 * q)) (tbit y (4 * q + 1)) (tbit y (4 * q + 2)) (tbit y (4 * q + 3))
/-- the eight words' distances -/
noncomputable def wayT (x y : Int) (q : Nat) : Int := if q < 6 then hamT x y q else hamT x y q + 2
noncomputable def pairA (x : Int) (q : Nat) : List Nat := if q = 6 then 121 :: wT x q else wT x q
noncomputable def pairB (y : Int) (q : Nat) : List Nat := if q = 6 then 122 :: wT y q else if q = 7 then (wT y q).take 2 ++ [122] ++ (wT y q).drop 2 else wT y q
theorem way_lev (x y : Int) (q : Nat) (h : q < 8) : lev (pairA x q) (pairB y q) (if q < 6 then 4 else 6) = wayT x y q := by
  unfold pairA pairB wayT hamT
  by_cases h6 : q < 6
  · rw [if_neg (by (first | lia | omega)), if_neg (by (first | lia | omega)), if_neg (by (first | lia | omega)), if_pos h6, if_pos h6]
    exact lev1 ..
  · rw [if_neg h6, if_neg h6]
    by_cases h7 : q = 6
    · rw [if_pos h7, if_pos h7]
      exact lev2 ..
    · rw [if_neg h7, if_neg h7, if_pos (by (first | lia | omega))]
      exact lev3 ..
theorem ways_sum (x y : Int) (f : Nat → Bool) (h : ∀ i, i < 32 → (tbit x i != tbit y i) = f i) : ((List.range 8).map (wayT x y)).sum - 4 = (wt f : Nat) := by
  have e : wt f = wt fun i => tbit x i != tbit y i := wt_congr fun i hi => (h i hi).symm
  rw [e]
  unfold wt
  rw [← sum_wt]
  have hr : List.range 32 = [0, 1, 2, 3, 4, 5, 6, 7, 8, 9, 10, 11, 12, 13, 14, 15, 16, 17, 18, 19, 20, 21, 22, 23, 24, 25, 26, 27, 28, 29, 30, 31] := by decide
  have hr8 : List.range 8 = [0, 1, 2, 3, 4, 5, 6, 7] := by decide
  rw [hr, hr8]
  have hw : ∀ q, hamT x y q = b2 (tbit x (4 * q)) (tbit y (4 * q)) + b2 (tbit x (4 * q + 1)) (tbit y (4 * q + 1)) + b2 (tbit x (4 * q + 2)) (tbit y (4 * q + 2)) + b2 (tbit x (4 * q + 3)) (tbit y (4 * q + 3)) := fun q => rfl
  have hb : ∀ i, (if (tbit x i != tbit y i) = true then (1 : Int) else 0) = b2 (tbit x i) (tbit y i) := fun i => rfl
  simp only [List.map_cons, List.map_nil, List.sum_cons, List.sum_nil, wayT, hw, hb]
  generalize (fun i => b2 (tbit x i) (tbit y i)) = g
  simp only [show (0 : Nat) < 6 from by decide, show (1 : Nat) < 6 from by decide, show (2 : Nat) < 6 from by decide, show (3 : Nat) < 6 from by decide, show (4 : Nat) < 6 from by decide, show (5 : Nat) < 6 from by decide, show ¬ (6 : Nat) < 6 from by decide, show ¬ (7 : Nat) < 6 from by decide, if_true, if_false, Nat.reduceMul, Nat.reduceAdd, Nat.zero_add]
  (first | lia | omega)

noncomputable def w3 (a b c : Bool) : List Nat := (wN a b c false).take 3
noncomputable def z41 : List Nat := (List.replicate 41 [122]).flatten
theorem nine_chk : (allB fun a => allB fun b => allB fun c =>
    (lev (w3 a b c) ((w3 a b c).take 1 ++ [122] ++ (w3 a b c).drop 1) 0 == 2) && (lev (w3 a b c ++ w3 a b c) (w3 a b c) 0 == 6) && (lev (w3 a b c) ((w3 a b c).drop 1 ++ (w3 a b c).take 1) 4 == 4) &&
    (lev (w3 a b c) ((w3 a b c).drop 2 ++ (w3 a b c).take 2) 4 == 4) && (lev (w3 a b c) ((w3 a b c).drop 1 ++ (w3 a b c).take 1) 2 == 3) && (lev ([121] ++ w3 a b c) ([122] ++ w3 a b c) 2 == 2) &&
    (lev ((w3 a b c).take 2) ([122] ++ (w3 a b c).take 1 ++ [122] ++ ((w3 a b c).drop 1).take 1 ++ [122]) 6 == 6) && (lev (w3 a b c) z41 99 == 100) && (lev z41 (w3 a b c) 99 == 100)) = true := by decide +kernel
theorem nine (a b c : Bool) : lev (w3 a b c) ((w3 a b c).take 1 ++ [122] ++ (w3 a b c).drop 1) 0 = 2 ∧ lev (w3 a b c ++ w3 a b c) (w3 a b c) 0 = 6 ∧ lev (w3 a b c) ((w3 a b c).drop 1 ++ (w3 a b c).take 1) 4 = 4 ∧
    lev (w3 a b c) ((w3 a b c).drop 2 ++ (w3 a b c).take 2) 4 = 4 ∧ lev (w3 a b c) ((w3 a b c).drop 1 ++ (w3 a b c).take 1) 2 = 3 ∧ lev ([121] ++ w3 a b c) ([122] ++ w3 a b c) 2 = 2 ∧
    lev ((w3 a b c).take 2) ([122] ++ (w3 a b c).take 1 ++ [122] ++ ((w3 a b c).drop 1).take 1 ++ [122]) 6 = 6 ∧ lev (w3 a b c) z41 99 = 100 ∧ lev z41 (w3 a b c) 99 = 100 := by
  have := allB_of (allB_of (allB_of nine_chk a) b) c
  simp only [Bool.and_eq_true, beq_iff_eq] at this
  obtain ⟨⟨⟨⟨⟨⟨⟨⟨h1, h2⟩, h3⟩, h4⟩, h5⟩, h6⟩, h7⟩, h8⟩, h9⟩ := this
  exact ⟨h1, h2, h3, h4, h5, h6, h7, h8, h9⟩

/-! quoted names -/
theorem q_plain {c : Nat} (h : c ≠ 34) : ∀ r : List Nat, q257 (c :: r) = c :: q257 r
  | [] => by simp [q257, h]
  | d :: r => by conv => lhs; unfold q257
                 rw [if_neg h]
theorem q_dbl (r : List Nat) : q257 (34 :: 34 :: r) = 34 :: q257 r := by
  conv => lhs; unfold q257
  rw [if_pos rfl, if_pos rfl]
theorem q_end {d : Nat} (h : d ≠ 34) (r : List Nat) : q257 (34 :: d :: r) = [] := by
  unfold q257
  rw [if_pos rfl, if_neg h]
theorem q_app : ∀ {l : List Nat} (r : List Nat), (∀ c ∈ l, c ≠ 34) → q257 (l ++ r) = l ++ q257 r
  | [], _, _ => rfl
  | c :: l, r, h => by
    rw [List.cons_append, q_plain (h c List.mem_cons_self), q_app r fun c hc => h c (List.mem_cons_of_mem _ hc)]; rfl
theorem q_page {A B : List Nat} (r : List Nat) (hA : ∀ c ∈ A, c ≠ 34) (hB : ∀ c ∈ B, c ≠ 34) : q257 (A ++ 34 :: 34 :: (B ++ 34 :: 32 :: r)) = A ++ 34 :: B := by
  rw [q_app _ hA, q_dbl, q_app _ hB, q_end (by decide), List.append_nil]
theorem q_rep (r : List Nat) : ∀ m : Nat, q257 (List.replicate (2 * m) 34 ++ r) = List.replicate m 34 ++ q257 r
  | 0 => rfl
  | m + 1 => by
    rw [show 2 * (m + 1) = (2 * m + 1) + 1 from rfl, List.replicate_succ, List.replicate_succ, List.cons_append, List.cons_append, q_dbl, q_rep r m, List.replicate_succ, List.cons_append]

/-! symbols -/
noncomputable def okS (c : Nat) : Bool := (decide (97 ≤ c) && decide (c ≤ 101)) || c == 126 || c == 38 || c == 94 || c == 34
theorem tok_table : (tokT.all fun e => decide (e.1.cps.toList.length = 1) || (match e.1.cps.toList with | _ :: d :: _ => !okS d | _ => true)) = true := by decide +kernel
theorem tok_single : ((List.range 128).all fun c => !okS c || (match tokT.lookup (S [c]) with | some i => i == symV c | none => 256 + Txt.find "abcde" (S [c]) == symV c)) = true := by decide +kernel
theorem okS_lt {c : Nat} (h : okS c = true) : c < 128 := by
  unfold okS at h
  simp only [Bool.or_eq_true, Bool.and_eq_true, decide_eq_true_eq, beq_iff_eq] at h
  (first | lia | omega)
theorem tok_none {c d : Nat} {r : List Nat} (h : okS d = true) : tokT.lookup (S (c :: d :: r)) = none := by
  cases e : tokT.lookup (S (c :: d :: r)) with
  | none => rfl
  | some i =>
    have := List.all_eq_true.mp tok_table _ (lookup_mem e)
    rw [Bool.or_eq_true] at this
    rcases this with h1 | h1
    · rw [decide_eq_true_eq] at h1
      have h1 : (c :: d :: r).length = 1 := h1
      simp at h1
    · have h1 : (!okS d) = true := h1
      rw [h] at h1; cases h1
theorem tokVal_of {c : Nat} {r : List Nat} (h : okS c = true) (hr : ∀ d ∈ r, okS d = true) : symL (c :: r) = symV c :: symL r := by
  have hs := List.all_eq_true.mp tok_single c (List.mem_range.mpr (okS_lt h))
  rw [h] at hs
  simp only [Bool.not_true, Bool.false_or] at hs
  have hv : ∀ (k : Nat), (c :: r).take k = [c] → (match tok? (c :: r) k with | some i => i | none => 256 + Txt.find "abcde" (S ((c :: r).take 1))) = symV c := by
    intro k hk
    unfold tok?
    rw [hk]
    have h1 : (c :: r).take 1 = [c] := rfl
    rw [h1]
    cases e : tokT.lookup (S [c]) with
    | none => rw [e] at hs; simpa using hs
    | some i => rw [e] at hs; simpa using hs
  have key : tokVal (c :: r) = symV c ∧ (c :: r).drop (tokLen (c :: r)) = r := by
    cases r with
    | nil =>
      unfold tokVal
      refine ⟨hv _ ?_, ?_⟩
      · have := tokLen_pos [c]
        rw [List.take_of_length_le (by simpa using this)]
      · have := tokLen_pos [c]
        rw [List.drop_eq_nil_of_le (by simpa using this)]
    | cons d r =>
      have hd := hr d List.mem_cons_self
      have e3 : tok? (c :: d :: r) 3 = none := by
        unfold tok?
        cases r with
        | nil => exact tok_none hd
        | cons e r => exact tok_none hd
      have e2 : tok? (c :: d :: r) 2 = none := by
        unfold tok?; exact tok_none hd
      have el : tokLen (c :: d :: r) = 1 := by unfold tokLen; rw [e3, e2]; rfl
      unfold tokVal
      rw [el]
      exact ⟨hv 1 rfl, rfl⟩
  conv => lhs; unfold symL
  rw [dif_neg (by simp), key.1, key.2]
theorem symL_map : ∀ {l : List Nat}, (∀ c ∈ l, okS c = true) → symL l = l.map symV
  | [], _ => by unfold symL; simp
  | c :: l, h => by
    rw [tokVal_of (h c List.mem_cons_self) fun d hd => h d (List.mem_cons_of_mem _ hd), symL_map fun d hd => h d (List.mem_cons_of_mem _ hd)]; rfl
theorem star_tok2 : tokT.lookup (S [42, 42]) = some 35 := by decide +kernel
theorem star_tok3 : tokT.lookup (S [42, 42, 42]) = none := by decide +kernel
theorem sym_star : ∀ m : Nat, symL (List.replicate (2 * m) 42) = List.replicate m 35
  | 0 => by unfold symL; simp
  | 1 => by
    show symL [42, 42] = [35]
    have e3 : tok? [42, 42] 3 = some 35 := star_tok2
    have el : tokLen [42, 42] = 3 := by unfold tokLen; rw [e3]; rfl
    have ev : tokVal [42, 42] = 35 := by unfold tokVal; rw [el, e3]
    unfold symL
    rw [dif_neg (by simp), ev, el, show ([42, 42] : List Nat).drop 3 = [] from rfl]
    unfold symL
    simp
  | m + 2 => by
    have h2 : List.replicate (2 * (m + 2)) 42 = 42 :: 42 :: List.replicate (2 * (m + 1)) 42 := by
      rw [show 2 * (m + 2) = (2 * (m + 1) + 1) + 1 from rfl, List.replicate_succ, List.replicate_succ]
    have h3 : List.replicate (2 * (m + 1)) 42 = 42 :: 42 :: List.replicate (2 * m) 42 := by
      rw [show 2 * (m + 1) = (2 * m + 1) + 1 from rfl, List.replicate_succ, List.replicate_succ]
    have e3 : tok? (List.replicate (2 * (m + 2)) 42) 3 = none := by
      rw [h2, h3]; exact star_tok3
    have e2 : tok? (List.replicate (2 * (m + 2)) 42) 2 = some 35 := by
      rw [h2]; exact star_tok2
    have el : tokLen (List.replicate (2 * (m + 2)) 42) = 2 := by unfold tokLen; rw [e3, e2]; rfl
    have ev : tokVal (List.replicate (2 * (m + 2)) 42) = 35 := by unfold tokVal; rw [el, e2]
    have ih := sym_star (m + 1)
    have hd : (List.replicate (2 * (m + 2)) 42).drop 2 = List.replicate (2 * (m + 1)) 42 := by rw [h2]; rfl
    unfold symL
    rw [dif_neg (by rw [h2]; simp), ev, el, hd, ih, ← List.replicate_succ]
end Mine
namespace Mine
set_option maxRecDepth 100000

noncomputable def kdL : Kd := [(("script" : Str), NameKind.cell), (("k" : Str), NameKind.local), (("cells" : Str), NameKind.local), (("one" : Str), NameKind.local), (("two" : Str), NameKind.local), (("three" : Str), NameKind.local), (("four" : Str), NameKind.local), (("five" : Str), NameKind.local), (("deeds" : Str), NameKind.local), (("due" : Str), NameKind.local), (("size" : Str), NameKind.cell), (("turn" : Str), NameKind.cell), (("terms" : Str), NameKind.local), (("texts" : Str), NameKind.local), (("columns" : Str), NameKind.cell), (("insides" : Str), NameKind.cell),
  (("replies" : Str), NameKind.local), (("told" : Str), NameKind.local), (("mark" : Str), NameKind.cell), (("forms" : Str), NameKind.local), (("codes" : Str), NameKind.local), (("page" : Str), NameKind.cell), (("row" : Str), NameKind.local), (("text" : Str), NameKind.local), (("asked" : Str), NameKind.local), (("rows" : Str), NameKind.cell), (("pairs" : Str), NameKind.cell), (("word" : Str), NameKind.local), (("number" : Str), NameKind.local), (("ways" : Str), NameKind.local), (("way" : Str), NameKind.local), (("cases" : Str), NameKind.local), (("ends" : Str), NameKind.local),
  (("range" : Str), NameKind.globalImplicit), (("xor" : Str), NameKind.globalImplicit), (("and_" : Str), NameKind.globalImplicit), (("inv" : Str), NameKind.globalImplicit), (("add" : Str), NameKind.globalImplicit), (("sub" : Str), NameKind.globalImplicit), (("mul" : Str), NameKind.globalImplicit), (("_law_symbols" : Str), NameKind.globalImplicit), (("_law_read" : Str), NameKind.globalImplicit), (("_law_values" : Str), NameKind.globalImplicit), (("_law_differ" : Str), NameKind.globalImplicit), (("_levenshtein_distance" : Str), NameKind.globalImplicit)]
theorem kdL_eq : kdAt 81 = kdL := by rfl
noncomputable def stL (i : Nat) : Stmt := nthS (bodyAt 81) i

theorem joinLen_S : ∀ ls : List (List Nat), joinLen (ls.map S) = (ls.map List.length).sum
  | [] => rfl
  | a :: r => by
    have ih := joinLen_S r
    unfold joinLen at ih ⊢
    rw [List.map_cons, List.map_cons, List.sum_cons, ih, S_len]; rfl
theorem glue_S (sep : List Nat) : ∀ (ls : List (List Nat)) (a : Array Nat), (ls.map S).foldl (fun acc p => acc ++ (S sep).cps ++ p.cps) a = (a.toList ++ (ls.map fun l => sep ++ l).flatten).toArray
  | [], a => by simp
  | l :: ls, a => by
    rw [List.map_cons, List.foldl_cons, glue_S sep ls]
    unfold S
    simp
theorem joinN_flat (sep : List Nat) : ∀ (a : List Nat) (r : List (List Nat)), joinN sep (a :: r) = a ++ (r.map fun l => sep ++ l).flatten
  | a, [] => by simp [joinN]
  | a, b :: r => by
    rw [joinN, joinN_flat sep b r]; simp
theorem join_S (sep : List Nat) (ls : List (List Nat)) : Txt.join (S sep) (ls.map S) = S (joinN sep ls) := by
  show (⟨((ls.map S).drop 1).foldl (fun acc p => acc ++ (S sep).cps ++ p.cps) ((ls.map S).headD Str.empty).cps⟩ : Str) = _
  cases ls with
  | nil => rfl
  | cons a r =>
    rw [List.map_cons, List.drop_one, List.tail_cons, List.headD_cons, glue_S, joinN_flat]
    unfold S
    simp
noncomputable def strsL (ls : List (List Nat)) : V := .list (ls.map fun l => .str (S l))
theorem strsV_map : ∀ ls : List (List Nat), strsV (ls.map fun l => V.str (S l)) = some (ls.map S)
  | [] => rfl
  | a :: r => by rw [List.map_cons, strsV, strsV_map r]; rfl
theorem v_join (sep : List Nat) (ls : List (List Nat)) (h : (ls.map List.length).sum + ls.length * sep.length ≤ 2 ^ 20) : methV "join" (.str (S sep)) [strsL ls] = some (.str (S (joinN sep ls))) := by
  unfold methV strsL
  dsimp only
  rw [if_pos rfl, strsV_map, Option.bind_some, joinLen_S, List.length_map, S_len, if_pos h, join_S]
theorem b_app {a b : List Nat} (h : a.length + b.length ≤ 2 ^ 20) : binV .Add (.str (S a)) (.str (S b)) = some (.str (S (a ++ b))) := b_cat (by rw [S_len, S_len]; exact h) (S_app _ _)
theorem b_rep {a : List Nat} {n : Nat} (h : a.length ≤ 2 ^ 10) (hn : n ≤ 1000) : binV .Mult (.str (S a)) (.int n) = some (.str (S (List.replicate n a).flatten)) := by
  have : binV .Mult (.str (S a)) (.int n) = if (S a).length ≤ 2 ^ 10 ∧ -1000 ≤ (n : Int) ∧ (n : Int) ≤ 1000 then some (.str (repStr (S a) n)) else none := rfl
  rw [this, if_pos (by rw [S_len]; (first | lia | omega))]
  rfl
theorem rep1 (c n : Nat) : (List.replicate n [c]).flatten = List.replicate n c := by
  induction n with
  | zero => rfl
  | succ n ih => rw [List.replicate_succ, List.flatten_cons, ih, List.replicate_succ]; rfl
theorem eqV_of {a b : V} (h : a = b) (hk : eqOk 5 a = true) : eqV a b = some () := by
  unfold eqV
  rw [if_pos ⟨h, hk⟩]
theorem c_ne {a b : List V} (h : a = b) (hk : eqOk 5 (.list a) = true) : cmpV .NotEq (.list a) (.list b) = some (.bool false) := by
  show (eqV (.list a) (.list b)).map _ = _
  rw [eqV_of (by rw [h]) hk]; rfl
theorem c_eq {a b : List V} (h : a = b) (hk : eqOk 5 (.list a) = true) : cmpV .Eq (.list a) (.list b) = some (.bool true) := by
  show (eqV (.list a) (.list b)).map _ = _
  rw [eqV_of (by rw [h]) hk]; rfl
theorem eqOk_flat {l : List V} (h : ∀ v ∈ l, eqOk 4 v = true) : eqOk 5 (.list l) = true := by
  unfold eqOk
  exact List.all_eq_true.mpr h
theorem eqOk_ints (l : List Int) : eqOk 5 (.list (l.map .int)) = true := eqOk_flat fun v hv => by
  rw [List.mem_map] at hv
  obtain ⟨i, _, rfl⟩ := hv; rfl
theorem eqOk_strs (l : List (List Nat)) : eqOk 5 (strsL l) = true := eqOk_flat fun v hv => by
  rw [List.mem_map] at hv
  obtain ⟨i, _, rfl⟩ := hv; rfl

/-- a piece of the law's body -/
structure Lw (Y : Sys) (mean : ExcName → Option Value) (stmts : List Stmt) (σ : St) (f : Flw) : Prop where
  out : ∀ A s₀ s W Pk env, Room Y.lvl A → Y.Fr s₀ W env kdL → SRep s₀ W Pk env σ s → A.frames = some [env] → env.frame = some env.locals → Top Y.p Y.loose mean Y.mg Y.mb s₀.heap →
    wpAny Y.M A (execs stmts env) (fun fl s' => ∃ σ', FRes s₀ W Pk env f σ' fl s') (fun _ _ => False) s
section
variable {Y : Sys} {mean : ExcName → Option Value} {σ σ₁ σ' : St} {f : Flw} {st : Stmt} {rest : List Stmt}
theorem Lw.of (h : Re Y kdL rest σ f) : Lw Y mean rest σ f := ⟨fun A s₀ s W Pk env hr F R _ _ _ => by
  obtain ⟨σ', h⟩ := h.out
  exact wpAny_mono (h.out A s₀ s W Pk env hr F R) (fun _ _ q => ⟨σ', q⟩) fun _ _ e => e⟩
theorem Lw.step (h : Xe Y kdL st σ .next σ₁) (r : Lw Y mean rest σ₁ f) : Lw Y mean (st :: rest) σ f := ⟨fun A s₀ s W Pk env hr F R h1 h2 h3 =>
  wpAny_execs_cons (wpAny_mono (h.out A s₀ s W Pk env hr F R) (fun fl s' q => by
    obtain ⟨rfl, R'⟩ := q
    exact r.out A s₀ s' W Pk env hr F R' h1 h2 h3) fun _ _ e => e)⟩
theorem Lw.weak (h : Sub σ' σ) (r : Lw Y mean rest σ' f) : Lw Y mean rest σ f := ⟨fun A s₀ s W Pk env hr F R h1 h2 h3 => r.out A s₀ s W Pk env hr F (R.weak h) h1 h2 h3⟩
theorem Lw.cut {l r : Vars} {o : Option (Str × List V)} (h : AllHas l r) (x : Lw Y mean rest ⟨r, o⟩ f) : Lw Y mean rest ⟨l, o⟩ f := x.weak (.of h)
/-- if [f(..) for x in ..] != due: .., where f may raise and be caught -/
theorem Lw.weakIf (ok : Y.Ok) {n : Nat} {fn x due : Str} {a : Addr} {es : List Expr} {fp pos px lpos dp cpos q : Pos} {body : List Stmt} {iter : Expr} {sc : Scope} {xs : List V} {val : V → V}
    (hsc : scopeOk sc kdL σ.vars = true) (hvar : varOk sc x = true) (hset : notSet iter = true) (e1 : evIter (Mine.ev Y.C n) kdL σ.vars iter = some xs) (hlen : xs.length ≤ 2 ^ 20) (ef : Y.C.fn fn = some a) (hne : es ≠ [])
    (hturn : ∀ (A : Around) (base : Heap) (outer : List Env), Room Y.lvl A → Y.K.In base → Top Y.p Y.loose mean Y.mg Y.mb base → ∀ xi ∈ xs, isGlob (relK sc.names kdL) (compVars sc kdL σ.vars x xi) fn = true ∧ ∃ vs, evArgs (Mine.ev Y.C n) (relK sc.names kdL) (compVars sc kdL σ.vars x xi) es = some vs ∧ CallW Y A base outer a vs (val xi))
    (hdue : σ.vars.lookup due = some (.list (xs.map val))) (heq : eqOk 5 (.list (xs.map val)) = true) (r : Lw Y mean rest σ f) :
    Lw Y mean (.If (.Compare (.ListComp (.Call (.Name fn fp) es [] pos) [⟨.Name x px, iter, [], 0⟩] sc lpos) [.NotEq] [.Name due dp] cpos) body [] q :: rest) σ f := ⟨fun A s₀ s W Pk env hr F R h1 h2 h3 =>
  wpAny_execs_cons (wpAny_mono (if_weak ok hr F R h1 h2 hsc hvar hset e1 hlen ef hne (hturn A s₀.heap [env] hr F.gf.1 h3) hdue heq) (fun fl s' q => by
    obtain ⟨rfl, R'⟩ := q
    exact r.out A s₀ s' W Pk env hr F R' h1 h2 h3) fun _ _ e => e)⟩
end
end Mine
namespace Mine
set_option maxRecDepth 100000

noncomputable def cellsV (c0 c1 c2 c3 c4 c5 : Int) : V := .list [.int c0, .int c1, .int c2, .int c3, .int c4, .int c5]
noncomputable def sumK (ns : List Int) (k : Int) : Int := (pickL ns (some k) none (some 6)).sum
theorem pick_map (ns : List Int) (lo hi st : Option Int) : pickL (ns.map V.int) lo hi st = (pickL ns lo hi st).map V.int := by
  unfold pickL
  rw [List.length_map, List.map_filterMap]
  congr 1
  funext i
  rw [List.getElem?_map]
theorem sumK_v (ns : List Int) (k : Int) : builtinV "sum" [.list (pickL (ns.map V.int) (some k) none (some 6))] = some (.int (sumK ns k)) := by
  rw [builtin_sum, pick_map, sumV_ints]; rfl
theorem pick_sub (ns : List Int) (lo hi st : Option Int) : ∀ x ∈ pickL ns lo hi st, x ∈ ns := fun x hx => by
  unfold pickL at hx
  rw [List.mem_filterMap] at hx
  obtain ⟨i, _, e⟩ := hx
  exact List.mem_of_getElem? e
theorem sum_bits {m : Nat} : ∀ l : List Int, (∀ x ∈ l, Builtin.Int.intBits x ≤ m) → Builtin.Int.intBits l.sum ≤ m + l.length
  | [], _ => by show Builtin.Int.intBits 0 ≤ _; exact Nat.zero_le _
  | a :: l, h => by
    have h1 := bits_add (h a List.mem_cons_self) (sum_bits l fun x hx => h x (List.mem_cons_of_mem _ hx))
    rw [List.sum_cons, List.length_cons]
    (first | lia | omega)
theorem pick_len (ns : List Int) (k : Int) : (pickL ns (some k) none (some 6)).length ≤ ns.length := by
  have := slicePick_size_le (ns.map fun i => Value.int i 0).toArray (some k) none (some 6)
  have e : (slicePick (ns.map fun i => Value.int i 0).toArray (some k) none (some 6)).size = (pickL ns (some k) none (some 6)).length := by
    unfold slicePick pickL sliceIdx
    simp only [List.size_toArray, List.length_map, List.getElem?_toArray, List.getElem?_map]
    rw [show (fun x => Option.map (fun i => Value.int i 0) ns[x]?) = fun x => (ns[x]?).map (fun i => Value.int i 0) from rfl]
    rw [← List.map_filterMap, List.length_map]
  rw [e] at this
  simpa using this
theorem sumK_bits {ns : List Int} (h : ∀ x ∈ ns, Builtin.Int.intBits x ≤ 2 ^ 20) (hl : ns.length ≤ 63) (k c : Int) (hc : Builtin.Int.intBits c ≤ 64) : Builtin.Int.intBits (c + sumK ns k) ≤ 2 ^ 20 + 64 := by
  have h1 := sum_bits (pickL ns (some k) none (some 6)) fun x hx => h x (pick_sub ns _ _ _ x hx)
  have h2 := pick_len ns k
  have h3 := bits_add hc h1
  unfold sumK
  (first | lia | omega)
theorem mul_ok {a b : Int} (ha : Builtin.Int.intBits a ≤ 2 ^ 20 + 64) (hb : Builtin.Int.intBits b ≤ 2 ^ 20 + 64) : IntMulOk a b := by
  unfold IntMulOk Builtin.Int.intTooBig
  intro h
  simp only [Bool.and_eq_true, decide_eq_true_eq] at h
  have : (bitsLine : Nat) = 2 ^ 27 := rfl
  (first | lia | omega)
theorem pow_ok {a : Int} (ha : Builtin.Int.intBits a ≤ 2 ^ 20 + 65) : binV .Pow (.int a) (.int 2) = some (.int (a ^ 2)) := by
  have : binV .Pow (.int a) (.int 2) = if (0 : Int) ≤ 2 ∧ (Builtin.Int.intBits a : Int) * 2 ≤ 2 ^ 27 then some (.int (a ^ (2 : Int).toNat)) else none := rfl
  rw [this, if_pos (by (first | lia | omega))]; rfl
theorem quarter (a b : Int) : ((a + b) ^ 2 - (a - b) ^ 2).fdiv 4 = a * b := by
  have : (a + b) ^ 2 - (a - b) ^ 2 = a * b * 4 := by
    rw [Int.pow_succ, Int.pow_succ, Int.pow_succ, Int.pow_succ, Int.pow_zero, Int.pow_zero, Int.one_mul, Int.one_mul]
    rw [Int.mul_add, Int.add_mul, Int.add_mul, Int.mul_sub, Int.sub_mul, Int.sub_mul, Int.mul_comm b a]
    (first | lia | omega)
  rw [this, Int.fdiv_eq_ediv_of_nonneg _ (by decide), Int.mul_ediv_cancel _ (by decide)]

section
variable {D : Adr} {phi : Str → List V → Option V} {prog : Program} {w : World} {K : Frag} {p : Program} {loose : List Str} {mg mb : Str → Option Value} {lvl : Nat} {mean : ExcName → Option Value} {rest : List Stmt} {f : Flw}

theorem law0 (ok : (sysOf D phi prog w K p loose mg mb lvl).Ok) (hp : Phi2 phi) {ns : List Int} (hb : ∀ x ∈ ns, Builtin.Int.intBits x ≤ 2 ^ 20) (hl : ns.length ≤ 63)
    (r : ∀ c0 c1 c2 c3 c4 c5 : Int, Lw (sysOf D phi prog w K p loose mg mb lvl) mean rest ⟨[("cells", cellsV c0 c1 c2 c3 c4 c5)], none⟩ f) :
    Lw (sysOf D phi prog w K p loose mg mb lvl) mean (stL 0 :: stL 1 :: stL 2 :: stL 3 :: stL 4 :: rest) ⟨[("script", .list (ns.map .int))], none⟩ f := by
  conv in (stL 0) => whnf
  conv in (stL 1) => whnf
  conv in (stL 2) => whnf
  conv in (stL 3) => whnf
  conv in (stL 4) => whnf
  refine Lw.step (σ₁ := ⟨[("script", .list (ns.map .int)), ("cells", cellsV (10 + sumK ns 0) (82 + sumK ns 1) (45 + sumK ns 2) (31 + sumK ns 3) (29 + sumK ns 4) (1 + sumK ns 5))], none⟩) (Xe.assign ok (n := 12) (r_comp0 ⟨rfl, rfl, rfl⟩ (i_range rfl (by decide) (a_cons r_int a_nil rfl) (g_range (k := 6) (by decide))) (by decide) ?_) rfl rfl) ?_
  · iterate 6 (refine c_cons (m_some (r_bin (r_idx (r_list (a_cons r_int (a_cons r_int (a_cons r_int (a_cons r_int (a_cons r_int (a_cons r_int a_nil rfl) rfl) rfl) rfl) rfl) rfl) (by decide)) (r_name rfl) (by rfl) rfl rfl)
      (r_bi rfl rfl rfl (by decide) (by decide) (b := .builtin "sum") rfl (a_cons (r_slice (r_name rfl) (p_some (r_name rfl)) p_none (p_some r_int) rfl rfl rfl (by rfl) rfl) a_nil rfl) (sumK_v ns _)) rfl)) ?_)
    exact c_nil
  have b3 := sumK_bits hb hl 3 31 (by decide)
  have b4 := sumK_bits hb hl 4 29 (by decide)
  generalize 10 + sumK ns 0 = c0
  generalize 82 + sumK ns 1 = c1
  generalize 45 + sumK ns 2 = c2
  generalize 31 + sumK ns 3 = c3 at b3 ⊢
  generalize 29 + sumK ns 4 = c4 at b4 ⊢
  generalize 1 + sumK ns 5 = c5
  refine Lw.step (Xe.unpack5 ok (n := 12) (va := .int c0) (vb := .int c1) (vc := .int c2) (vd := .int c3) (ve := .int c4) (r_slice (r_name rfl) p_none (p_some r_int) p_none rfl rfl rfl (by rfl) rfl) rfl rfl (fun _ => rfl) fun _ => rfl) ?_
  refine Lw.cut (r := [("cells", cellsV c0 c1 c2 c3 c4 c5), ("one", .int c0), ("two", .int c1), ("three", .int c2), ("four", .int c3), ("five", .int c4)]) (.cons rfl (.cons rfl (.cons rfl (.cons rfl (.cons rfl (.cons rfl .nil)))))) ?_
  refine Lw.step (Xe.assign ok (n := 12) (v := .list [.int (Builtin.bitXor c0 c1), .int (Builtin.bitAnd c2 c3), .int (Builtin.bitNot c4), .int (c1 + c2), .int (c0 - c3), .int (c3 * c4)]) (r_list
    (a_cons (r_fn rfl rfl rfl (a_cons (r_name rfl) (a_cons (r_name rfl) a_nil rfl) rfl) (hp.xor rfl))
    (a_cons (r_fn rfl rfl rfl (a_cons (r_name rfl) (a_cons (r_name rfl) a_nil rfl) rfl) (hp.and_ rfl))
    (a_cons (r_fn rfl rfl rfl (a_cons (r_name rfl) a_nil rfl) (hp.inv rfl))
    (a_cons (r_fn rfl rfl rfl (a_cons (r_name rfl) (a_cons (r_name rfl) a_nil rfl) rfl) (hp.add rfl))
    (a_cons (r_fn rfl rfl rfl (a_cons (r_name rfl) (a_cons (r_name rfl) a_nil rfl) rfl) (hp.sub rfl))
    (a_cons (r_fn rfl rfl rfl (a_cons (r_name rfl) (a_cons (r_name rfl) a_nil rfl) rfl) (hp.mul (b_mul (mul_ok b3 b4) rfl))) a_nil rfl) rfl) rfl) rfl) rfl) rfl) (by decide)) rfl rfl) ?_
  refine Lw.step (Xe.assign ok (n := 12) (v := .list [.int (Builtin.bitOr c0 c1 - Builtin.bitAnd c0 c1), .int (c2 + c3 - Builtin.bitOr c2 c3), .int (-1 - c4), .int (c1 - (0 - c2)), .int (c0 + (0 - c3))]) (r_list
    (a_cons (r_bin (r_bin (r_name rfl) (r_name rfl) rfl) (r_bin (r_name rfl) (r_name rfl) rfl) rfl)
    (a_cons (r_bin (r_bin (r_name rfl) (r_name rfl) rfl) (r_bin (r_name rfl) (r_name rfl) rfl) rfl)
    (a_cons (r_bin (r_un r_int rfl) (r_name rfl) rfl)
    (a_cons (r_bin (r_name rfl) (r_bin r_int (r_name rfl) rfl) rfl)
    (a_cons (r_bin (r_name rfl) (r_bin r_int (r_name rfl) rfl) rfl) a_nil rfl) rfl) rfl) rfl) rfl) (by decide)) rfl rfl) ?_
  have ba : Builtin.Int.intBits (c3 + c4) ≤ 2 ^ 20 + 65 := by have := bits_add b3 b4; (first | lia | omega)
  have bs : Builtin.Int.intBits (c3 - c4) ≤ 2 ^ 20 + 65 := by have := bits_sub b3 b4; (first | lia | omega)
  refine Lw.step (Xe.ite ok (n := 12) (b := false) (t_val rfl (r_cmp rfl rfl (r_name rfl) (r_bin (r_name rfl) (r_list (a_cons (r_bin (r_bin (r_bin (r_bin (r_name rfl) (r_name rfl) rfl) r_int (pow_ok ba)) (r_bin (r_bin (r_name rfl) (r_name rfl) rfl) r_int (pow_ok bs)) rfl) r_int (b_div (by decide) (quarter c3 c4))) a_nil rfl) (by decide)) (b_join (Nat.le_of_ble_eq_true rfl))) (c_ne ?_ (by rfl))) rfl) Ru.nil) ?_
  · have e1 : Builtin.bitXor c0 c1 = Builtin.bitOr c0 c1 - Builtin.bitAnd c0 c1 := rfl
    have e2 : Builtin.bitAnd c2 c3 = c2 + c3 - Builtin.bitOr c2 c3 := by rw [bitOr_and]; (first | lia | omega)
    have e3 : Builtin.bitNot c4 = -1 - c4 := by unfold Builtin.bitNot; (first | lia | omega)
    have e4 : c1 + c2 = c1 - (0 - c2) := by (first | lia | omega)
    have e5 : c0 - c3 = c0 + (0 - c3) := by (first | lia | omega)
    rw [e1, ← e2, e3, e4, e5]
    rfl
  · exact Lw.cut (.cons rfl .nil) (r c0 c1 c2 c3 c4 c5)
end
end Mine
namespace Mine
set_option maxRecDepth 100000

noncomputable def dig (c : Int) (k : Nat) : Nat := ((c.fdiv (10 ^ k)).fmod 10).toNat
theorem dig_v (c : Int) (k : Nat) : (c.fdiv (10 ^ k)).fmod 10 = (dig c k : Int) := by
  unfold dig
  have := Int.fmod_nonneg_of_pos (c.fdiv (10 ^ k)) (b := 10) (by decide)
  (first | lia | omega)
theorem dig_lt (c : Int) (k : Nat) : dig c k < 10 := by
  unfold dig
  have := Int.fmod_lt_of_pos (c.fdiv (10 ^ k)) (b := 10) (by decide)
  (first | lia | omega)
noncomputable def termT (c : Int) (s : Nat) : List Nat := (List.range s).map (dig c)
noncomputable def termsV (T : List (List Nat)) : V := .list ((T.map digI).map intsV)
theorem pow10 {k : Nat} (h : k < 4) : binV .Pow (.int 10) (.int k) = some (.int (10 ^ k)) := by
  have : k = 0 ∨ k = 1 ∨ k = 2 ∨ k = 3 := by (first | lia | omega)
  rcases this with rfl | rfl | rfl | rfl <;> exact b_pow (by decide +kernel) rfl
theorem div10 (c : Int) {k : Nat} (h : k < 4) : binV .FloorDiv (.int c) (.int (10 ^ k)) = some (.int (c.fdiv (10 ^ k))) := by
  have : k = 0 ∨ k = 1 ∨ k = 2 ∨ k = 3 := by (first | lia | omega)
  rcases this with rfl | rfl | rfl | rfl <;> exact b_div (by decide) rfl
theorem letter_at {j : Nat} (h : j < 5) : idxV (.str ("abcde" : Str)) (.int j) = some (.str (S [97 + j])) := by
  have : j = 0 ∨ j = 1 ∨ j = 2 ∨ j = 3 ∨ j = 4 := by (first | lia | omega)
  rcases this with rfl | rfl | rfl | rfl | rfl <;> rfl
theorem litT_len (d : Nat) : (litT d).length ≤ 2 := by unfold litT; split <;> simp
theorem lits_sum : ∀ ds : List Nat, ((ds.map litT).map List.length).sum ≤ 2 * ds.length
  | [] => by simp
  | d :: ds => by
    have h1 := litT_len d
    have h2 := lits_sum ds
    simp only [List.map_cons, List.sum_cons, List.length_cons]
    (first | lia | omega)
theorem joinN_len (sep : List Nat) : ∀ ls : List (List Nat), (joinN sep ls).length ≤ (ls.map List.length).sum + ls.length * sep.length
  | [] => by simp [joinN]
  | [a] => by simp [joinN]
  | a :: b :: r => by
    have := joinN_len sep (b :: r)
    unfold joinN
    simp only [List.length_append, List.map_cons, List.sum_cons, List.length_cons] at this ⊢
    rw [Nat.add_mul, Nat.add_mul] at *
    (first | lia | omega)
theorem textT_len (ds : List Nat) : (textT ds).length ≤ 3 * ds.length := by
  unfold textT
  have h1 := joinN_len [38] (ds.map litT)
  have h2 := lits_sum ds
  simp only [List.length_map, List.length_cons, List.length_nil] at h1
  (first | lia | omega)

section
variable {D : Adr} {phi : Str → List V → Option V} {prog : Program} {w : World} {K : Frag} {p : Program} {loose : List Str} {mg mb : Str → Option Value} {lvl : Nat} {mean : ExcName → Option Value} {rest : List Stmt} {f : Flw}

theorem law1 (ok : (sysOf D phi prog w K p loose mg mb lvl).Ok) (c0 c1 c2 c3 c4 c5 : Int)
    (r : ∀ (s t : Nat) (T0 T1 T2 T3 T4 : List Nat), 1 ≤ s → s ≤ 4 → t < 5 → (∀ P ∈ [T0, T1, T2, T3, T4], P.length = s ∧ ∀ d ∈ P, d < 10) →
      Lw (sysOf D phi prog w K p loose mg mb lvl) mean rest ⟨[("cells", cellsV c0 c1 c2 c3 c4 c5), ("size", .int s), ("turn", .int t), ("terms", termsV [T0, T1, T2, T3, T4]), ("texts", strsL ([T0, T1, T2, T3, T4].map textT))], none⟩ f) :
    Lw (sysOf D phi prog w K p loose mg mb lvl) mean (stL 5 :: stL 6 :: stL 7 :: stL 8 :: rest) ⟨[("cells", cellsV c0 c1 c2 c3 c4 c5)], none⟩ f := by
  conv in (stL 5) => whnf
  conv in (stL 6) => whnf
  conv in (stL 7) => whnf
  conv in (stL 8) => whnf
  obtain ⟨s, hs⟩ : ∃ s : Nat, 1 + c5.fmod 4 = (s : Int) := by
    have := Int.fmod_nonneg_of_pos c5 (b := 4) (by decide)
    exact ⟨(1 + c5.fmod 4).toNat, by (first | lia | omega)⟩
  have hs1 : 1 ≤ s := by
    have := Int.fmod_nonneg_of_pos c5 (b := 4) (by decide)
    (first | lia | omega)
  have hs4 : s ≤ 4 := by
    have := Int.fmod_lt_of_pos c5 (b := 4) (by decide)
    (first | lia | omega)
  obtain ⟨t, ht⟩ : ∃ t : Nat, (c5.fdiv 4).fmod 5 = (t : Int) := by
    have := Int.fmod_nonneg_of_pos (c5.fdiv 4) (b := 5) (by decide)
    exact ⟨((c5.fdiv 4).fmod 5).toNat, by (first | lia | omega)⟩
  have ht5 : t < 5 := by
    have := Int.fmod_lt_of_pos (c5.fdiv 4) (b := 5) (by decide)
    (first | lia | omega)
  refine Lw.step (Xe.assign ok (n := 12) (v := .int s) (r_bin r_int (r_bin (r_idx (r_name rfl) r_int (by rfl) rfl rfl) r_int (b_mod rfl rfl)) (by rw [← hs]; rfl)) rfl rfl) ?_
  refine Lw.step (Xe.assign ok (n := 12) (v := .int t) (r_bin (r_bin (r_idx (r_name rfl) r_int (by rfl) rfl rfl) r_int (b_div (by decide) rfl)) r_int (b_mod rfl ht)) rfl rfl) ?_
  have dg : ∀ c : Int, ((List.range s).map fun (i : Nat) => V.int i).map (fun x => match x with | .int k => .int (dig c k.toNat) | _ => .none) = (digI (termT c s)).map V.int := by
    intro c
    unfold digI termT
    rw [List.map_map, List.map_map, List.map_map]
    apply List.map_congr_left
    intro k _
    simp
  refine Lw.step (Xe.assign ok (n := 14) (v := termsV [termT c0 s, termT c1 s, termT c2 s, termT c3 s, termT c4 s]) (r_comp0 ⟨rfl, rfl, rfl⟩ (i_val rfl (r_slice (r_name rfl) p_none (p_some r_int) p_none rfl rfl rfl (by rfl) rfl) rfl) (Nat.le_of_ble_eq_true rfl) ?_) rfl rfl) ?_
  · iterate 5 (refine c_cons (m_some (r_comp0 ⟨rfl, rfl, rfl⟩ (i_range rfl (by decide) (a_cons (r_name rfl) a_nil rfl) (g_range (k := s) (by (first | lia | omega)))) (by rw [List.length_map, List.length_range]; (first | lia | omega)) (by
        rw [← dg]
        refine c_map fun x hx => ?_
        rw [List.mem_map] at hx
        obtain ⟨k, hk, rfl⟩ := hx
        have hk4 : k < 4 := by have := List.mem_range.mp hk; (first | lia | omega)
        exact m_some (r_bin (r_bin (r_name rfl) (r_bin r_int (r_name rfl) (pow10 hk4)) (div10 _ hk4)) r_int (b_mod rfl (dig_v _ k)))))) ?_)
    exact c_nil
  have hT : ∀ P ∈ [termT c0 s, termT c1 s, termT c2 s, termT c3 s, termT c4 s], P.length = s ∧ ∀ d ∈ P, d < 10 := by
    have key : ∀ c, (termT c s).length = s ∧ ∀ d ∈ termT c s, d < 10 := fun c => by
      unfold termT
      refine ⟨by simp, fun d hd => ?_⟩
      rw [List.mem_map] at hd
      obtain ⟨k, _, rfl⟩ := hd
      exact dig_lt c k
    intro P hP
    simp only [List.mem_cons, List.not_mem_nil, or_false] at hP
    rcases hP with rfl | rfl | rfl | rfl | rfl <;> exact key _
  generalize termT c0 s = T0 at hT ⊢
  generalize termT c1 s = T1 at hT ⊢
  generalize termT c2 s = T2 at hT ⊢
  generalize termT c3 s = T3 at hT ⊢
  generalize termT c4 s = T4 at hT ⊢
  have lt : ∀ ds : List Nat, ((digI ds).map V.int).map (fun x => match x with | .int k => .str (S (litT k.toNat)) | _ => .none) = (ds.map litT).map fun l => V.str (S l) := by
    intro ds
    unfold digI
    rw [List.map_map, List.map_map, List.map_map]
    apply List.map_congr_left
    intro k _
    simp
  refine Lw.step (Xe.assign ok (n := 16) (v := strsL ([T0, T1, T2, T3, T4].map textT)) (r_comp0 ⟨rfl, rfl, rfl⟩ (i_val rfl (r_name rfl) rfl) (Nat.le_of_ble_eq_true rfl) ?_) rfl rfl) ?_
  · have one : ∀ P ∈ [T0, T1, T2, T3, T4], ((P.map litT).map List.length).sum + (P.map litT).length * ([38] : List Nat).length ≤ 2 ^ 20 := fun P hP => by
      have h1 := lits_sum P
      have h2 := (hT P hP).1
      simp only [List.length_map, List.length_cons, List.length_nil]
      (first | lia | omega)
    have two : ∀ P ∈ [T0, T1, T2, T3, T4], ((digI P).map V.int).length ≤ 2 ^ 20 := fun P hP => by
      have h2 := (hT P hP).1
      unfold digI
      rw [List.length_map, List.length_map]
      (first | lia | omega)
    iterate 5 (refine c_cons (m_some (r_meth rfl (by decide) rfl rfl (r_str (by decide)) (a_cons (r_comp0 ⟨rfl, rfl, rfl⟩ (i_val rfl (r_name rfl) rfl) (two _ (by simp)) (by
        rw [← lt]
        refine c_map fun x hx => ?_
        rw [List.mem_map] at hx
        obtain ⟨z, hz, rfl⟩ := hx
        unfold digI at hz
        rw [List.mem_map] at hz
        obtain ⟨d, hd, rfl⟩ := hz
        have hm : (d : Int).fmod 5 = ((d % 5 : Nat) : Int) := by rw [Int.fmod_eq_emod_of_nonneg _ (by decide)]; (first | lia | omega)
        show _ = some (some (V.str (S (litT d))))
        unfold litT
        by_cases h : d > 4
        · rw [if_pos h]
          exact m_some (r_bin (r_if (c := true) (t_val rfl (r_cmp rfl rfl (r_name rfl) r_int rfl) (td (by (first | lia | omega)))) (r_str (by decide))) (r_idx (r_str (by decide)) (r_bin (r_name rfl) r_int (b_mod rfl hm)) (letter_at (Nat.mod_lt _ (by decide))) rfl rfl) (b_app (a := [126]) (Nat.le_of_ble_eq_true rfl)))
        · rw [if_neg h]
          exact m_some (r_bin (r_if (c := false) (t_val rfl (r_cmp rfl rfl (r_name rfl) r_int rfl) (tn (by (first | lia | omega)))) (r_str (by decide))) (r_idx (r_str (by decide)) (r_bin (r_name rfl) r_int (b_mod rfl hm)) (letter_at (Nat.mod_lt _ (by decide))) rfl rfl) (b_app (a := []) (Nat.le_of_ble_eq_true rfl))))) a_nil rfl) (v_join [38] _ (one _ (by simp))))) ?_)
    exact c_nil
  · exact r s t T0 T1 T2 T3 T4 hs1 hs4 ht5 hT
end
end Mine
namespace Mine
set_option maxRecDepth 100000

noncomputable def decK : Nat → List Nat
  | 0 => [49, 52, 51, 49, 54, 53, 53, 55, 54, 53]
  | 1 => [56, 53, 56, 57, 57, 51, 52, 53, 57]
  | 2 => [50, 53, 50, 54, 52, 53, 49, 51, 53]
  | 3 => [49, 54, 55, 49, 49, 57, 51, 53]
  | _ => [54, 53, 53, 51, 53]
noncomputable def insideN (t k : Nat) : List Nat := (if k % 2 = 0 then [97 + k, 55, 97 + k, 97 + k] else [97 + k, 97 + k, 40, 97 + k]) ++ decK ((k + t) % 5)
noncomputable def replyN (t k : Nat) : List Nat := [50, 50, 57, 32, 111, 107, 41, 32, 40] ++ insideN t k ++ [97 + k] ++ [41, 32, 40, 120] ++ [97 + k] ++ [41]
theorem str_chk : ((List.range 5).all fun j => decide ((Str.ofString (toString (colK j))).cps.toList = decK j) && decide ((colK j).natAbs.log2 < 1920)) = true := by decide +kernel
theorem reply_chk : ((List.range 5).all fun t => (List.range 5).all fun k => (p229 (S (replyN t k))).isPort (colF ((k : Int) + t))) = true := by decide +kernel
noncomputable def formN (m : Nat) : List (List Nat) := [[50, 50, 57, 32, 111, 107, 50, 57, 50, 41], [50, 50, 57, 32, 111, 107, 41, 32, 40] ++ [m, m, m] ++ [57] ++ [m] ++ [120], [50, 50, 57, 32, 40] ++ [m, m, m] ++ [57] ++ [m] ++ [120, 41],
  [50, 50, 57, 32, 40] ++ [m, m] ++ [57] ++ [m] ++ [41], [50, 50, 57, 32, 40] ++ [m, m, m, m] ++ [57] ++ [m] ++ [41]]
noncomputable def codeN (m : Nat) : List (List Nat) := [[49, 50, 57], [50, 49, 57], [50, 50, 56]].map fun c => c ++ [32, 40] ++ [m, m, m] ++ [57] ++ [m] ++ [41]
theorem form_chk : ((List.range 5).all fun t => ((formN (97 + t)).all fun l => (p229 (S l)).isProto) && ((codeN (97 + t)).all fun l => (p229 (S l)).isReply)) = true := by decide +kernel
end Mine
namespace Mine
set_option maxRecDepth 100000

theorem reply_ok {t k : Nat} (ht : t < 5) (hk : k < 5) : p229 (S (replyN t k)) = .port (colF ((k : Int) + t)) :=
  R229.port_of (List.all_eq_true.mp (List.all_eq_true.mp reply_chk t (List.mem_range.mpr ht)) k (List.mem_range.mpr hk))
theorem form_ok {t : Nat} (ht : t < 5) {l : List Nat} (h : l ∈ formN (97 + t)) : p229 (S l) = .proto := by
  have := List.all_eq_true.mp form_chk t (List.mem_range.mpr ht)
  rw [Bool.and_eq_true] at this
  exact R229.proto_of (List.all_eq_true.mp this.1 l h)
theorem code_ok {t : Nat} (ht : t < 5) {l : List Nat} (h : l ∈ codeN (97 + t)) : p229 (S l) = .reply := by
  have := List.all_eq_true.mp form_chk t (List.mem_range.mpr ht)
  rw [Bool.and_eq_true] at this
  exact R229.reply_of (List.all_eq_true.mp this.2 l h)
theorem colF_add (k t : Nat) : colF ((k : Int) + t) = colK ((k + t) % 5) := by
  have : ((k : Int) + t) = ((k + t : Nat) : Int) := by (first | lia | omega)
  rw [this, colF_nat]
theorem str_col (k t : Nat) : builtinV "str" [.int (colF ((k : Int) + t))] = some (.str (S (decK ((k + t) % 5)))) := by
  have h5 : (k + t) % 5 < 5 := Nat.mod_lt _ (by decide)
  have := List.all_eq_true.mp str_chk _ (List.mem_range.mpr h5)
  simp only [Bool.and_eq_true, decide_eq_true_eq] at this
  rw [colF_add]
  unfold builtinV
  rw [if_neg (by decide), if_neg (by decide), if_neg (by decide), if_neg (by decide), if_pos rfl]
  dsimp only
  have e : Str.ofString (toString (colK ((k + t) % 5))) = S (decK ((k + t) % 5)) := by rw [← this.1]; exact S_of _
  have hl : (Str.ofString (toString (colK ((k + t) % 5)))).length ≤ 2 ^ 20 := by
    rw [e, S_len]
    have : ∀ j, (decK j).length ≤ 10 := fun j => by unfold decK; split <;> decide
    have := this ((k + t) % 5)
    (first | lia | omega)
  rw [if_pos ⟨this.2, hl⟩]
  rw [e]
theorem c_on {α : Type} {F : V → Option (Option V)} (fv g : α → V) : ∀ {l : List α}, (∀ a ∈ l, F (fv a) = some (some (g a))) → compV F (l.map fv) = some (l.map g)
  | [], _ => rfl
  | a :: l, h => c_cons (h a List.mem_cons_self) (c_on fv g fun b hb => h b (List.mem_cons_of_mem _ hb))
theorem five_map (g : V → V) (h : Nat → V) (e : ∀ k : Nat, k < 5 → g (.int k) = h k) : ((List.range 5).map fun (i : Nat) => V.int i).map g = (List.range 5).map h := by
  rw [List.map_map]
  apply List.map_congr_left
  intro k hk
  exact e k (List.mem_range.mp hk)
theorem strs_at {ls : List (List Nat)} {k : Nat} {l : List Nat} (h : ls[k]? = some l) (hk : k < 2 ^ 40) : idxV (strsL ls) (.int k) = some (.str (S l)) := by
  unfold strsL
  simp only [idxV]
  rw [if_pos (by (first | lia | omega)), List.getElem?_map]
  have : (k : Int).toNat = k := by (first | lia | omega)
  rw [this, h]; rfl
theorem ints_at {l : List Int} {k : Nat} {i : Int} (h : l[k]? = some i) (hk : k < 2 ^ 40) : idxV (intsV l) (.int k) = some (.int i) := by
  unfold intsV
  simp only [idxV]
  rw [if_pos (by (first | lia | omega)), List.getElem?_map]
  have : (k : Int).toNat = k := by (first | lia | omega)
  rw [this, h]; rfl
theorem range5_at {α : Type} (g : Nat → α) {k : Nat} (hk : k < 5) : ((List.range 5).map g)[k]? = some (g k) := by
  rw [List.getElem?_map, List.getElem?_range hk]; rfl
noncomputable def toldV (t : Nat) : V := .list ((List.range 5).map fun (k : Nat) => .tup [.str "here", .int (colF ((k : Int) + t))])

section
variable {D : Adr} {phi : Str → List V → Option V} {prog : Program} {w : World} {K : Frag} {p : Program} {loose : List Str} {mg mb : Str → Option Value} {lvl : Nat} {mean : ExcName → Option Value} {rest : List Stmt} {f : Flw}

theorem law2 (ok : (sysOf D phi prog w K p loose mg mb lvl).Ok) (hp : Phi2 phi) {t : Nat} (ht : t < 5) (va vb vc vd : V)
    (r : Lw (sysOf D phi prog w K p loose mg mb lvl) mean rest ⟨[("cells", va), ("size", vb), ("turn", .int t), ("terms", vc), ("texts", vd), ("told", toldV t)], none⟩ f) :
    Lw (sysOf D phi prog w K p loose mg mb lvl) mean (stL 9 :: stL 10 :: stL 11 :: stL 12 :: stL 13 :: rest) ⟨[("cells", va), ("size", vb), ("turn", .int t), ("terms", vc), ("texts", vd)], none⟩ f := by
  conv in (stL 9) => whnf
  conv in (stL 10) => whnf
  conv in (stL 11) => whnf
  conv in (stL 12) => whnf
  conv in (stL 13) => whnf
  refine Lw.step (Xe.assign ok (n := 12) (v := intsV (colsT t)) (r_comp0 ⟨rfl, rfl, rfl⟩ (i_range rfl (by decide) (a_cons r_int a_nil rfl) (g_range (k := 5) (by decide))) (by decide) ?_) rfl rfl) ?_
  · refine (c_map (g := fun x => match x with | .int k => .int (colF (k + t)) | _ => .none) fun x hx => ?_).trans (congrArg some ?_)
    · rw [List.mem_map] at hx
      obtain ⟨k, hk, rfl⟩ := hx
      exact m_some (r_fn rfl rfl rfl (a_cons (r_bin (r_name rfl) (r_name rfl) rfl) a_nil rfl) hp.col)
    · rw [five_map _ (fun k => .int (colF ((k : Int) + t))) fun _ _ => rfl]
      unfold colsT
      rw [List.map_map]; rfl
  refine Lw.step (Xe.assign ok (n := 16) (v := strsL ((List.range 5).map (insideN t))) (r_comp0 ⟨rfl, rfl, rfl⟩ (i_range rfl (by decide) (a_cons r_int a_nil rfl) (g_range (k := 5) (by decide))) (by decide) ?_) rfl rfl) ?_
  · refine (c_map (g := fun x => match x with | .int k => .str (S (insideN t k.toNat)) | _ => .none) fun x hx => ?_).trans (congrArg some ?_)
    · rw [List.mem_map] at hx
      obtain ⟨k, hk, rfl⟩ := hx
      have hk := List.mem_range.mp hk
      have hl := letter_at hk
      have hm : (k : Int).fmod 2 = ((k % 2 : Nat) : Int) := by rw [Int.fmod_eq_emod_of_nonneg _ (by decide)]; (first | lia | omega)
      have hi : ∀ a b : V, idxV (.list [a, b]) (.int ((k % 2 : Nat) : Int)) = some (if k % 2 = 0 then a else b) := fun a b => by
        rcases Nat.mod_two_eq_zero_or_one k with h | h <;> rw [h] <;> rfl
      have hcol := ints_at (l := colsT t) (range5_at (fun (k : Nat) => colF ((k : Int) + t)) hk) (by (first | lia | omega))
      have r2 := b_rep (a := [97 + k]) (n := 2) (Nat.le_of_ble_eq_true rfl) (by decide)
      refine m_some (r_bin (a := .str (S (if k % 2 = 0 then [97 + k, 55, 97 + k, 97 + k] else [97 + k, 97 + k, 40, 97 + k]))) (r_idx (r_list (a_cons (v := .str (S [97 + k, 55, 97 + k, 97 + k])) (r_bin (r_bin (r_idx (r_str (by decide)) (r_name rfl) hl rfl rfl) (r_str (by decide)) (b_app (a := [97 + k]) (b := [55]) (Nat.le_of_ble_eq_true rfl))) (r_bin (r_idx (r_str (by decide)) (r_name rfl) hl rfl rfl) r_int r2) (b_app (a := [97 + k, 55]) (b := [97 + k, 97 + k]) (Nat.le_of_ble_eq_true rfl)))
          (a_cons (v := .str (S [97 + k, 97 + k, 40, 97 + k])) (r_bin (r_bin (r_bin (r_idx (r_str (by decide)) (r_name rfl) hl rfl rfl) r_int r2) (r_str (by decide)) (b_app (a := [97 + k, 97 + k]) (b := [40]) (Nat.le_of_ble_eq_true rfl))) (r_idx (r_str (by decide)) (r_name rfl) hl rfl rfl) (b_app (a := [97 + k, 97 + k, 40]) (b := [97 + k]) (Nat.le_of_ble_eq_true rfl))) a_nil rfl) rfl) (by decide))
          (r_bin (r_name rfl) r_int (b_mod rfl hm)) ((hi _ _).trans (by split <;> rfl)) rfl rfl)
        (r_bi rfl rfl rfl (by decide) (by decide) (b := .type "str") rfl (a_cons (r_idx (r_name rfl) (r_name rfl) hcol rfl rfl) a_nil rfl) (str_col k t)) (b_app ?_))
      have : ∀ j, (decK j).length ≤ 10 := fun j => by unfold decK; split <;> decide
      have := this ((k + t) % 5)
      split <;> simp <;> (first | lia | omega)
    · rw [five_map _ (fun k => .str (S (insideN t k))) fun _ _ => rfl, List.map_map]; rfl
  have hil : ∀ k, (insideN t k).length ≤ 20 := fun k => by
    unfold insideN
    have : ∀ j, (decK j).length ≤ 10 := fun j => by unfold decK; split <;> decide
    have := this ((k + t) % 5)
    split <;> simp <;> (first | lia | omega)
  refine Lw.step (Xe.assign ok (n := 16) (v := strsL ((List.range 5).map (replyN t))) (r_comp0 ⟨rfl, rfl, rfl⟩ (i_range rfl (by decide) (a_cons r_int a_nil rfl) (g_range (k := 5) (by decide))) (by decide) ?_) rfl rfl) ?_
  · refine (c_map (g := fun x => match x with | .int k => .str (S (replyN t k.toNat)) | _ => .none) fun x hx => ?_).trans (congrArg some ?_)
    · rw [List.mem_map] at hx
      obtain ⟨k, hk, rfl⟩ := hx
      have hk := List.mem_range.mp hk
      have hl := letter_at hk
      have hi := hil k
      have hin := strs_at (range5_at (insideN t) hk) (by (first | lia | omega))
      exact m_some (r_bin (r_bin (r_bin (r_bin (r_bin (r_str (by decide)) (r_idx (r_name rfl) (r_name rfl) hin rfl rfl) (b_app (a := [50, 50, 57, 32, 111, 107, 41, 32, 40]) (by simp; (first | lia | omega))))
        (r_idx (r_str (by decide)) (r_name rfl) hl rfl rfl) (b_app (by simp; (first | lia | omega)))) (r_str (by decide)) (b_app (b := [41, 32, 40, 120]) (by simp; (first | lia | omega)))) (r_idx (r_str (by decide)) (r_name rfl) hl rfl rfl) (b_app (by simp; (first | lia | omega)))) (r_str (by decide)) (b_app (b := [41]) (by simp; (first | lia | omega))))
    · rw [five_map _ (fun k => .str (S (replyN t k))) fun _ _ => rfl, List.map_map]; rfl
  refine Lw.step (Xe.assign ok (n := 16) (v := toldV t) (r_comp0 ⟨rfl, rfl, rfl⟩ (i_val rfl (r_name rfl) rfl) (by simp) ?_) rfl rfl) ?_
  · rw [show ((List.range 5).map (replyN t)).map (fun l => V.str (S l)) = (List.range 5).map (fun k => V.str (S (replyN t k))) from List.map_map]
    exact c_on _ _ fun k hk => m_some (r_fn rfl rfl rfl (a_cons (r_name rfl) (a_cons r_bool a_nil rfl) rfl) (hp.r229 (reply_ok ht (List.mem_range.mp hk))))
  refine Lw.step (Xe.ite ok (n := 16) (b := false) (t_val rfl (r_cmp rfl rfl (r_name rfl) (v := .bool false) (b := toldV t) (r_comp0 ⟨rfl, rfl, rfl⟩ (i_val rfl (r_name rfl) rfl) (by simp [colsT]) ?_) (c_ne rfl (by rfl))) rfl) Ru.nil) ?_
  · refine (c_map (g := fun x => .tup [.str "here", x]) fun x hx => m_some (r_tup (a_cons (r_str (by decide)) (a_cons (r_name rfl) a_nil rfl) rfl) (by decide))).trans (congrArg some ?_)
    unfold colsT
    rw [List.map_map, List.map_map]; rfl
  · exact Lw.cut (.cons rfl (.cons rfl (.cons rfl (.cons rfl (.cons rfl (.cons rfl .nil)))))) r
end
end Mine
namespace Mine
set_option maxRecDepth 100000

noncomputable def formP : List Nat := [102, 111, 114, 109, 32]
noncomputable def codeP : List Nat := [99, 111, 100, 101, 32]
noncomputable def val229 : V → V
  | .str x => if (p229 x).isProto = true then .str (("form " : Str) ++ x) else .str (("code " : Str) ++ x)
  | v => v
noncomputable def dueN (m : Nat) : List (List Nat) := (formN m).map (formP ++ ·) ++ (codeN m).map (codeP ++ ·)
theorem val229_p {x : Str} (h : p229 x = .proto) : val229 (.str x) = .str (("form " : Str) ++ x) := by
  show (if (p229 x).isProto = true then V.str (("form " : Str) ++ x) else .str (("code " : Str) ++ x)) = _
  rw [h]; rfl
theorem val229_r {x : Str} (h : p229 x = .reply) : val229 (.str x) = .str (("code " : Str) ++ x) := by
  show (if (p229 x).isProto = true then V.str (("form " : Str) ++ x) else .str (("code " : Str) ++ x)) = _
  rw [h]; rfl
theorem val_due {t : Nat} (ht : t < 5) : ((formN (97 + t) ++ codeN (97 + t)).map fun l => V.str (S l)).map val229 = (dueN (97 + t)).map fun l => V.str (S l) := by
  have h1 : ((formN (97 + t)).map fun l => V.str (S l)).map val229 = ((formN (97 + t)).map (formP ++ ·)).map fun l => V.str (S l) := by
    rw [List.map_map, List.map_map]
    apply List.map_congr_left
    intro l hl
    exact (val229_p (form_ok ht hl)).trans (by rw [show ("form " : Str) = S formP from rfl, S_app]; rfl)
  have h2 : ((codeN (97 + t)).map fun l => V.str (S l)).map val229 = ((codeN (97 + t)).map (codeP ++ ·)).map fun l => V.str (S l) := by
    rw [List.map_map, List.map_map]
    apply List.map_congr_left
    intro l hl
    exact (val229_r (code_ok ht hl)).trans (by rw [show ("code " : Str) = S codeP from rfl, S_app]; rfl)
  unfold dueN
  rw [List.map_append, List.map_append, List.map_append, h1, h2]
theorem formN_len {m : Nat} {l : List Nat} (h : l ∈ formN m) : l.length ≤ 20 := by
  unfold formN at h
  simp only [List.mem_cons, List.not_mem_nil, or_false] at h
  rcases h with rfl | rfl | rfl | rfl | rfl <;> simp
theorem codeN_len {m : Nat} {l : List Nat} (h : l ∈ codeN m) : l.length ≤ 20 := by
  unfold codeN at h
  simp only [List.map_cons, List.map_nil, List.mem_cons, List.not_mem_nil, or_false] at h
  rcases h with rfl | rfl | rfl <;> simp
section
variable {D : Adr} {Er Ep : Addr} {prog : Program} {w : World} {K : Frag} {p : Program} {loose : List Str} {mg mb : Str → Option Value} {mean : ExcName → Option Value} {rest : List Stmt} {f : Flw}

theorem law3 (b : Base D Er Ep K w) {t : Nat} (ht : t < 5) (va vb vc vd ve : V)
    (r : Lw (sysC D prog w K p loose mg mb) mean rest ⟨[("cells", va), ("size", vb), ("turn", .int t), ("terms", vc), ("texts", vd), ("told", ve)], none⟩ f) :
    Lw (sysC D prog w K p loose mg mb) mean (stL 14 :: stL 15 :: stL 16 :: stL 17 :: stL 18 :: stL 19 :: rest) ⟨[("cells", va), ("size", vb), ("turn", .int t), ("terms", vc), ("texts", vd), ("told", ve)], none⟩ f := by
  have ok := okC (prog := prog) (p := p) (loose := loose) (mg := mg) (mb := mb) b
  conv in (stL 14) => whnf
  conv in (stL 15) => whnf
  conv in (stL 16) => whnf
  conv in (stL 17) => whnf
  conv in (stL 18) => whnf
  conv in (stL 19) => whnf
  have hm := letter_at ht
  have hv := val_due ht
  have hpr : ∀ l ∈ formN (97 + t), p229 (S l) = .proto := fun l h => form_ok ht h
  have hre : ∀ l ∈ codeN (97 + t), p229 (S l) = .reply := fun l h => code_ok ht h
  generalize 97 + t = m at hm hv hpr hre
  have r2 := b_rep (a := [m]) (n := 2) (Nat.le_of_ble_eq_true rfl) (by decide)
  have r3 := b_rep (a := [m]) (n := 3) (Nat.le_of_ble_eq_true rfl) (by decide)
  have r4 := b_rep (a := [m]) (n := 4) (Nat.le_of_ble_eq_true rfl) (by decide)
  refine Lw.step (Xe.assign ok (n := 12) (r_idx (r_str (by decide)) (r_name rfl) hm rfl rfl) rfl rfl) ?_
  refine Lw.step (Xe.assign ok (n := 12) (v := strsL ((formN m).take 3)) (r_list (a_cons (r_str (by decide))
    (a_cons (r_bin (r_bin (r_bin (r_bin (r_str (by decide)) (r_bin (r_name rfl) r_int r3) (b_app (a := [50, 50, 57, 32, 111, 107, 41, 32, 40]) (b := [m, m, m]) (Nat.le_of_ble_eq_true rfl))) (r_str (by decide)) (b_app (b := [57]) (Nat.le_of_ble_eq_true rfl))) (r_name rfl) (b_app (b := [m]) (Nat.le_of_ble_eq_true rfl))) (r_str (by decide)) (b_app (b := [120]) (Nat.le_of_ble_eq_true rfl)))
    (a_cons (r_bin (r_bin (r_bin (r_bin (r_str (by decide)) (r_bin (r_name rfl) r_int r3) (b_app (a := [50, 50, 57, 32, 40]) (b := [m, m, m]) (Nat.le_of_ble_eq_true rfl))) (r_str (by decide)) (b_app (b := [57]) (Nat.le_of_ble_eq_true rfl))) (r_name rfl) (b_app (b := [m]) (Nat.le_of_ble_eq_true rfl))) (r_str (by decide)) (b_app (b := [120, 41]) (Nat.le_of_ble_eq_true rfl)))
      a_nil rfl) rfl) rfl) (by decide)) rfl rfl) ?_
  refine Lw.step (Xe.assign ok (n := 12) (v := strsL (formN m)) (r_bin (r_name rfl) (r_list
    (a_cons (r_bin (r_bin (r_bin (r_bin (r_str (by decide)) (r_bin (r_name rfl) r_int r2) (b_app (a := [50, 50, 57, 32, 40]) (b := [m, m]) (Nat.le_of_ble_eq_true rfl))) (r_str (by decide)) (b_app (b := [57]) (Nat.le_of_ble_eq_true rfl))) (r_name rfl) (b_app (b := [m]) (Nat.le_of_ble_eq_true rfl))) (r_str (by decide)) (b_app (b := [41]) (Nat.le_of_ble_eq_true rfl)))
    (a_cons (r_bin (r_bin (r_bin (r_bin (r_str (by decide)) (r_bin (r_name rfl) r_int r4) (b_app (a := [50, 50, 57, 32, 40]) (b := [m, m, m, m]) (Nat.le_of_ble_eq_true rfl))) (r_str (by decide)) (b_app (b := [57]) (Nat.le_of_ble_eq_true rfl))) (r_name rfl) (b_app (b := [m]) (Nat.le_of_ble_eq_true rfl))) (r_str (by decide)) (b_app (b := [41]) (Nat.le_of_ble_eq_true rfl)))
      a_nil rfl) rfl) (by decide)) (b_join (Nat.le_of_ble_eq_true rfl))) rfl rfl) ?_
  refine Lw.step (Xe.assign ok (n := 14) (v := strsL (codeN m)) (r_comp0 ⟨rfl, rfl, rfl⟩ (i_val rfl (r_list (a_cons (r_str (by decide)) (a_cons (r_str (by decide)) (a_cons (r_str (by decide)) a_nil rfl) rfl) rfl) (by decide)) rfl) (Nat.le_of_ble_eq_true rfl) ?_) rfl rfl) ?_
  · have key : ∀ c : List Nat, c.length = 3 → binV .Add (.str (S c)) (.str (S [32, 40])) = some (.str (S (c ++ [32, 40]))) ∧ binV .Add (.str (S (c ++ [32, 40]))) (.str (S [m, m, m])) = some (.str (S (c ++ [32, 40] ++ [m, m, m]))) ∧ binV .Add (.str (S (c ++ [32, 40] ++ [m, m, m]))) (.str (S [57])) = some (.str (S (c ++ [32, 40] ++ [m, m, m] ++ [57]))) ∧
        binV .Add (.str (S (c ++ [32, 40] ++ [m, m, m] ++ [57]))) (.str (S [m])) = some (.str (S (c ++ [32, 40] ++ [m, m, m] ++ [57] ++ [m]))) ∧ binV .Add (.str (S (c ++ [32, 40] ++ [m, m, m] ++ [57] ++ [m]))) (.str (S [41])) = some (.str (S (c ++ [32, 40] ++ [m, m, m] ++ [57] ++ [m] ++ [41]))) := fun c hc =>
      ⟨b_app (by simp; (first | lia | omega)), b_app (by simp; (first | lia | omega)), b_app (by simp; (first | lia | omega)), b_app (by simp; (first | lia | omega)), b_app (by simp; (first | lia | omega))⟩
    have one := fun c hc => key c hc
    refine (c_on (l := [[49, 50, 57], [50, 49, 57], [50, 50, 56]]) (fun l => V.str (S l)) (fun c => .str (S (c ++ [32, 40] ++ [m, m, m] ++ [57] ++ [m] ++ [41]))) fun c hc => ?_)
    have hc3 : c.length = 3 := by
      simp only [List.mem_cons, List.not_mem_nil, or_false] at hc
      rcases hc with rfl | rfl | rfl <;> rfl
    obtain ⟨k1, k2, k3, k4, k5⟩ := key c hc3
    exact m_some (r_bin (r_bin (r_bin (r_bin (r_bin (r_name rfl) (r_str (by decide)) k1) (r_bin (r_name rfl) r_int r3) k2) (r_str (by decide)) k3) (r_name rfl) k4) (r_str (by decide)) k5)
  refine Lw.step (Xe.assign ok (n := 14) (v := strsL (dueN m)) (r_bin (a := strsL ((formN m).map (formP ++ ·))) (b := strsL ((codeN m).map (codeP ++ ·))) (r_comp0 ⟨rfl, rfl, rfl⟩ (i_val rfl (r_name rfl) rfl) (Nat.le_of_ble_eq_true rfl) ?_) (r_comp0 ⟨rfl, rfl, rfl⟩ (i_val rfl (r_name rfl) rfl) (Nat.le_of_ble_eq_true rfl) ?_) ?_) rfl rfl) ?_
  · rw [List.map_map]
    refine c_on _ _ fun l hl => m_some (r_bin (r_str (by decide)) (r_name rfl) (b_app (a := formP) ?_))
    have := formN_len hl
    show 5 + l.length ≤ _; (first | lia | omega)
  · rw [List.map_map]
    refine c_on _ _ fun l hl => m_some (r_bin (r_str (by decide)) (r_name rfl) (b_app (a := codeP) ?_))
    have := codeN_len hl
    show 5 + l.length ≤ _; (first | lia | omega)
  · refine (b_join (Nat.le_of_ble_eq_true rfl)).trans ?_
    unfold dueN strsL
    rw [← List.map_append]
  refine Lw.weakIf ok (n := 14) (val := val229) (xs := (formN m ++ codeN m).map fun l => V.str (S l)) rfl rfl rfl (i_val rfl (r_bin (v := strsL (formN m ++ codeN m)) (r_name rfl) (r_name rfl) ?_) rfl) (Nat.le_of_ble_eq_true rfl) rfl (List.cons_ne_nil _ _) ?_ ?_ ?_ (Lw.cut (.cons rfl (.cons rfl (.cons rfl (.cons rfl (.cons rfl (.cons rfl .nil)))))) r)
  · refine (b_join (Nat.le_of_ble_eq_true rfl)).trans ?_
    unfold strsL
    rw [← List.map_append]
  · intro A base outer hr XB TB xi hxi
    rw [List.mem_map] at hxi
    obtain ⟨l, hl, rfl⟩ := hxi
    refine ⟨rfl, [.str (S l), .bool false], a_cons (r_name rfl) (a_cons r_bool a_nil rfl) rfl, ?_⟩
    show CallW _ A base outer D.a13 [.str (S l), .bool false] (val229 (.str (S l)))
    rcases List.mem_append.mp hl with hl | hl
    · rw [val229_p (hpr l hl)]
      exact cw_229p b hr XB TB (by rw [S_len]; have := formN_len hl; (first | lia | omega)) (hpr l hl)
    · rw [val229_r (hre l hl)]
      exact cw_229r b hr XB TB (by rw [S_len]; have := codeN_len hl; (first | lia | omega)) (hre l hl)
  · rw [hv]; rfl
  · rw [hv]; exact eqOk_strs _
end
end Mine
namespace Mine
set_option maxRecDepth 100000

noncomputable def pageEnd : List Nat := [34, 32, 97, 110, 100, 32, 34, 115, 111, 32, 111, 110, 34]
noncomputable def pageN (A B : List Nat) : List Nat := [32, 34] ++ A ++ [34, 34] ++ B ++ pageEnd
noncomputable def c257 : List Nat := [50, 53, 55]
theorem page_read {A B : List Nat} (hA : ∀ c ∈ A, c ≠ 34) (hB : ∀ c ∈ B, c ≠ 34) : f257 (c257 ++ pageN A B) = A ++ 34 :: B := by
  have e : c257 ++ pageN A B = [50, 53, 55, 32, 34] ++ (A ++ 34 :: 34 :: (B ++ 34 :: 32 :: [97, 110, 100, 32, 34, 115, 111, 32, 111, 110, 34])) := by
    unfold c257 pageN pageEnd; simp
  unfold f257
  rw [e]
  rw [show (([50, 53, 55, 32, 34] ++ (A ++ 34 :: 34 :: (B ++ 34 :: 32 :: [97, 110, 100, 32, 34, 115, 111, 32, 111, 110, 34])) : List Nat).drop 3).take 2 = [32, 34] from rfl, if_pos rfl]
  exact q_page _ hA hB
noncomputable def val257 : V → V
  | .str x => if (x.cps.toList.take 3 == c257) = true then .str (S (f257 x.cps.toList)) else .str (("code " : Str) ++ x)
  | v => v
theorem val257_n {l : List Nat} (h : l.take 3 ≠ c257) : val257 (.str (S l)) = .str (S (codeP ++ l)) := by
  show (if (l.take 3 == c257) = true then V.str (S (f257 l)) else .str (("code " : Str) ++ S l)) = _
  rw [if_neg (by simpa using h), show ("code " : Str) = S codeP from rfl, S_app]
theorem val257_y {l : List Nat} (h : l.take 3 = c257) : val257 (.str (S l)) = .str (S (f257 l)) := by
  show (if (l.take 3 == c257) = true then V.str (S (f257 l)) else .str (("code " : Str) ++ S l)) = _
  rw [if_pos (by simpa using h)]

theorem slice_list {xs ys : List V} {lo hi : Option Int} {n : Nat} {idx : List Nat} (hn : xs.length = n) (h : sliceIdx lo hi none n = idx) (e : idx.filterMap (xs[·]?) = ys) : sliceV (.list xs) lo hi none = some (.list ys) := by
  show some (V.list (pickL xs lo hi none)) = _
  unfold pickL
  rw [hn, h, e]
section
variable {D : Adr} {Er Ep : Addr} {prog : Program} {w : World} {K : Frag} {p : Program} {loose : List Str} {mg mb : Str → Option Value} {mean : ExcName → Option Value} {rest : List Stmt} {f : Flw}

theorem law4 (b : Base D Er Ep K w) {x0 x1 x2 x3 x4 A B : List Nat} (eA : A = joinN [94] [x0, x1, x2]) (eB : B = joinN [94] [x3, x4]) (hA : ∀ c ∈ A, c ≠ 34) (hB : ∀ c ∈ B, c ≠ 34) (hl : x0.length + x1.length + x2.length + x3.length + x4.length ≤ 100) (va vb vc vd ve : V)
    (r : Lw (sysC D prog w K p loose mg mb) mean rest ⟨[("cells", va), ("size", vb), ("turn", vc), ("terms", vd), ("texts", strsL [x0, x1, x2, x3, x4]), ("told", ve), ("row", intsV (symL (A ++ 34 :: B) ++ [0]))], none⟩ f) :
    Lw (sysC D prog w K p loose mg mb) mean (stL 20 :: stL 21 :: stL 22 :: stL 23 :: stL 24 :: rest) ⟨[("cells", va), ("size", vb), ("turn", vc), ("terms", vd), ("texts", strsL [x0, x1, x2, x3, x4]), ("told", ve)], none⟩ f := by
  have ok := okC (prog := prog) (p := p) (loose := loose) (mg := mg) (mb := mb) b
  have hp := phi2_B
  conv in (stL 20) => whnf
  conv in (stL 21) => whnf
  conv in (stL 22) => whnf
  conv in (stL 23) => whnf
  conv in (stL 24) => whnf
  have jA := v_join [94] [x0, x1, x2] (by simp; (first | lia | omega))
  have jB := v_join [94] [x3, x4] (by simp; (first | lia | omega))
  have lA : A.length ≤ 104 := by rw [eA]; have := joinN_len [94] [x0, x1, x2]; simp at this; (first | lia | omega)
  have lB : B.length ≤ 104 := by rw [eB]; have := joinN_len [94] [x3, x4]; simp at this; (first | lia | omega)
  rw [← eA] at jA
  rw [← eB] at jB
  clear eA eB
  have lP : (pageN A B).length ≤ 300 := by unfold pageN pageEnd; simp; (first | lia | omega)
  have dP1 : (pageN A B).drop 1 = [34] ++ A ++ [34, 34] ++ B ++ pageEnd := by unfold pageN; simp
  have dP2 : (pageN A B).drop 2 = A ++ [34, 34] ++ B ++ pageEnd := by unfold pageN; simp
  have hread := page_read hA hB
  refine Lw.step (Xe.assign ok (n := 14) (v := .str (S (pageN A B))) (r_bin (r_bin (r_bin (r_bin (r_str (by decide)) (r_meth rfl (by decide) rfl rfl (r_str (by decide)) (a_cons (r_slice (r_name rfl) p_none (p_some r_int) p_none rfl rfl rfl (by rfl) rfl) a_nil rfl) jA) (b_app (a := [32, 34]) (by simp; (first | lia | omega)))) (r_str (by decide)) (b_app (b := [34, 34]) (by simp; (first | lia | omega))))
    (r_meth rfl (by decide) rfl rfl (r_str (by decide)) (a_cons (r_slice (r_name rfl) (p_some r_int) p_none p_none rfl rfl rfl (slice_list (n := 5) (idx := [3, 4]) rfl (by decide +kernel) rfl) rfl) a_nil rfl) jB) (b_app (by simp; (first | lia | omega)))) (r_str (by decide)) (b_app (b := pageEnd) (by unfold pageEnd; simp; (first | lia | omega)))) rfl rfl) ?_
  generalize hP : pageN A B = P at lP dP1 dP2 hread
  refine Lw.step (Xe.assign ok (n := 14) (v := strsL [[49, 53, 55] ++ P, [50, 52, 55] ++ P, [50, 53, 54] ++ P]) (r_comp0 ⟨rfl, rfl, rfl⟩ (i_val rfl (r_list (a_cons (r_str (by decide)) (a_cons (r_str (by decide)) (a_cons (r_str (by decide)) a_nil rfl) rfl) rfl) (by decide)) rfl) (Nat.le_of_ble_eq_true rfl) ?_) rfl rfl) ?_
  · refine c_on (l := [[49, 53, 55], [50, 52, 55], [50, 53, 54]]) (fun l => V.str (S l)) (fun c => .str (S (c ++ P))) fun c hc => ?_
    have hc3 : c.length = 3 := by
      simp only [List.mem_cons, List.not_mem_nil, or_false] at hc
      rcases hc with rfl | rfl | rfl <;> rfl
    exact m_some (r_bin (r_name rfl) (r_name rfl) (b_app (by (first | lia | omega))))
  refine Lw.step (Xe.assign ok (n := 14) (v := strsL [codeP ++ ([49, 53, 55] ++ P), codeP ++ ([50, 52, 55] ++ P), codeP ++ ([50, 53, 54] ++ P), [], []]) (r_bin (a := strsL [codeP ++ ([49, 53, 55] ++ P), codeP ++ ([50, 52, 55] ++ P), codeP ++ ([50, 53, 54] ++ P)]) (r_comp0 ⟨rfl, rfl, rfl⟩ (i_val rfl (r_name rfl) rfl) (Nat.le_of_ble_eq_true rfl) ?_) (r_list (a_cons (r_str (by decide)) (a_cons (r_str (by decide)) a_nil rfl) rfl) (by decide)) (b_join (Nat.le_of_ble_eq_true rfl))) rfl rfl) ?_
  · refine c_on (l := [[49, 53, 55] ++ P, [50, 52, 55] ++ P, [50, 53, 54] ++ P]) (fun l => V.str (S l)) (fun c => .str (S (codeP ++ c))) fun c hc => m_some (r_bin (r_str (by decide)) (r_name rfl) (b_app (a := codeP) ?_))
    simp only [List.mem_cons, List.not_mem_nil, or_false] at hc
    unfold codeP
    rcases hc with rfl | rfl | rfl <;> (simp; (first | lia | omega))
  have k1 : ∀ c : List Nat, c.length = 3 → c ≠ c257 → (c ++ P).take 3 ≠ c257 := fun c h1 h2 => by
    rw [← h1, List.take_left]; exact h2
  have vals : ([[49, 53, 55] ++ P, [50, 52, 55] ++ P, [50, 53, 54] ++ P, [50, 53, 55, 45] ++ P.drop 1, [50, 53, 55, 32, 39] ++ P.drop 2].map fun l => V.str (S l)).map val257 = [codeP ++ ([49, 53, 55] ++ P), codeP ++ ([50, 52, 55] ++ P), codeP ++ ([50, 53, 54] ++ P), [], []].map fun l => V.str (S l) := by
    simp only [List.map_cons, List.map_nil]
    rw [val257_n (k1 _ rfl (by decide)), val257_n (k1 _ rfl (by decide)), val257_n (k1 _ rfl (by decide)), val257_y rfl, val257_y rfl]
    rw [dP1, dP2]
    rfl
  refine Lw.weakIf ok (n := 14) (val := val257) (xs := [[49, 53, 55] ++ P, [50, 52, 55] ++ P, [50, 53, 54] ++ P, [50, 53, 55, 45] ++ P.drop 1, [50, 53, 55, 32, 39] ++ P.drop 2].map fun l => V.str (S l)) rfl rfl rfl
    (i_val rfl (r_bin (v := strsL [[49, 53, 55] ++ P, [50, 52, 55] ++ P, [50, 53, 54] ++ P, [50, 53, 55, 45] ++ P.drop 1, [50, 53, 55, 32, 39] ++ P.drop 2]) (r_name rfl) (r_list
      (a_cons (r_bin (r_str (by decide)) (r_slice (r_name rfl) (p_some r_int) p_none p_none rfl rfl rfl (sl_drop P 1) rfl) (b_app (a := [50, 53, 55, 45]) (by simp; (first | lia | omega))))
      (a_cons (r_bin (r_str (by decide)) (r_slice (r_name rfl) (p_some r_int) p_none p_none rfl rfl rfl (sl_drop P 2) rfl) (b_app (a := [50, 53, 55, 32, 39]) (by simp; (first | lia | omega)))) a_nil rfl) rfl) (by decide)) (b_join (Nat.le_of_ble_eq_true rfl))) rfl) (Nat.le_of_ble_eq_true rfl) rfl (List.cons_ne_nil _ _) ?_ ?_ ?_ ?_
  · intro Ar base outer hr XB TB xi hxi
    rw [List.mem_map] at hxi
    obtain ⟨l, hl, rfl⟩ := hxi
    refine ⟨rfl, [.str (S l), .bool true], a_cons (r_name rfl) (a_cons r_bool a_nil rfl) rfl, ?_⟩
    have ll : l.length ≤ 400 := by
      simp only [List.mem_cons, List.not_mem_nil, or_false] at hl
      rcases hl with rfl | rfl | rfl | rfl | rfl <;> simp <;> (first | lia | omega)
    by_cases h3 : l.take 3 = c257
    · rw [val257_y h3]
      exact CallW.of_ok hr (ok.call "_law_read" D.a13 _ _ rfl (hp.r257 (by (first | lia | omega)) h3))
    · rw [val257_n h3, ← S_app]
      exact cw_257 b hr XB TB (by (first | lia | omega)) h3
  · rw [vals]; rfl
  · rw [vals]; exact eqOk_strs _
  refine Lw.step (Xe.assign ok (n := 14) (v := intsV (symL (A ++ 34 :: B) ++ [0])) (r_fn rfl rfl rfl (a_cons (r_fn rfl rfl rfl (a_cons (r_bin (r_str (by decide)) (r_name rfl) (b_app (a := c257) (by unfold c257; simp; (first | lia | omega)))) (a_cons r_bool a_nil rfl) rfl) (hp.r257 (by unfold c257; simp; (first | lia | omega)) rfl)) a_nil rfl) ?_) rfl rfl) ?_
  · rw [hread]
    refine (hp.syms (by simp; (first | lia | omega))).trans ?_
    unfold intsV
    rw [List.map_append]; rfl
  · exact Lw.cut (.cons rfl (.cons rfl (.cons rfl (.cons rfl (.cons rfl (.cons rfl (.cons rfl .nil))))))) r
end
end Mine
namespace Mine
set_option maxRecDepth 100000

noncomputable def isL (c : Nat) : Bool := decide (97 ≤ c) && decide (c ≤ 101)
noncomputable def dictS : List (Str × Int) := [("&", 19), ("^", 32), ("~", 31), ("\"", 255)]
theorem sign_chk : ((List.range 128).all fun c => !okS c || (((!(Builtin.Str.occurrences ("abcde" : Str) (S [c]) 0 ("abcde" : Str).length 1).isEmpty) == isL c) && (isL c || (dictS.lookup (S [c]) == some (symV c))) && (!isL c || (256 + Txt.find "abcde" (S [c]) == symV c)) && (decide (256 ≤ symV c) == isL c))) = true := by decide +kernel
theorem sign_ok {c : Nat} (h : okS c = true) : (!(Builtin.Str.occurrences ("abcde" : Str) (S [c]) 0 ("abcde" : Str).length 1).isEmpty) = isL c ∧ (isL c = false → dictS.lookup (S [c]) = some (symV c)) ∧ (isL c = true → 256 + Txt.find "abcde" (S [c]) = symV c) ∧ decide (256 ≤ symV c) = isL c := by
  have := List.all_eq_true.mp sign_chk c (List.mem_range.mpr (okS_lt h))
  rw [h] at this
  simp only [Bool.not_true, Bool.false_or, Bool.and_eq_true, beq_iff_eq, Bool.or_eq_true] at this
  obtain ⟨⟨⟨h1, h2⟩, h3⟩, h4⟩ := this
  refine ⟨h1, fun e => h2.resolve_left (by rw [e]; decide), fun e => h3.resolve_left (by rw [e]; decide), h4⟩
theorem c_onf {α : Type} {F : V → Option (Option V)} (fv g : α → V) (t : α → Bool) : ∀ {l : List α}, (∀ a ∈ l, F (fv a) = some (if t a = true then some (g a) else none)) → compV F (l.map fv) = some ((l.filter t).map g)
  | [], _ => rfl
  | a :: l, h => by
    have h1 := h a List.mem_cons_self
    have ih := c_onf fv g t fun b hb => h b (List.mem_cons_of_mem _ hb)
    cases ht : t a with
    | true => rw [ht, if_pos rfl] at h1; rw [List.filter_cons_of_pos ht]; exact c_cons h1 ih
    | false => rw [ht, if_neg (by decide)] at h1; rw [List.filter_cons_of_neg (by simp [ht])]; exact c_drop h1 ih
theorem signs_S (l : List Nat) : signsV (S l) = l.map fun c => V.str (S [c]) := by
  unfold signsV S; simp
theorem m_tst {o : Option V} {e : Option V} {b : Bool} {v : V} (h : o = some (.bool b)) (h1 : b = true → e = some v) : (o.bind fun b => match b with | .bool true => e.map some | .bool false => some none | _ => none) = some (if b = true then some v else none) := by
  rw [h]
  cases b with
  | true => simp [h1 rfl]
  | false => rfl
theorem filter_term (l : List Nat) (h : ∀ c ∈ l, okS c = true) : (l.map symV ++ [0]).filter (fun s => decide (s < 256)) = (l.filter fun c => !isL c).map symV ++ [0] := by
  rw [List.filter_append, List.filter_map]
  congr 2
  apply List.filter_congr
  intro c hc
  have := (sign_ok (h c hc)).2.2.2
  rw [← this]
  show decide (symV c < 256) = !decide (256 ≤ symV c)
  rw [Bool.eq_iff_iff]
  simp
theorem filter_nont (l : List Nat) (h : ∀ c ∈ l, okS c = true) : (l.map symV ++ [0]).filter (fun s => decide (256 ≤ s)) = (l.filter isL).map symV := by
  rw [List.filter_append, List.filter_map]
  rw [show ([0] : List Int).filter (fun s => decide (256 ≤ s)) = [] from rfl, List.append_nil]
  congr 1
  apply List.filter_congr
  intro c hc
  exact (sign_ok (h c hc)).2.2.2

section
variable {D : Adr} {phi : Str → List V → Option V} {prog : Program} {w : World} {K : Frag} {p : Program} {loose : List Str} {mg mb : Str → Option Value} {lvl : Nat} {mean : ExcName → Option Value} {rest : List Stmt} {f : Flw}

theorem law5 (ok : (sysOf D phi prog w K p loose mg mb lvl).Ok) (hp : Phi2 phi) {x0 x1 x2 x3 x4 A B : List Nat} (eA : A = joinN [94] [x0, x1, x2]) (eB : B = joinN [94] [x3, x4]) (hok : ∀ c ∈ A ++ 34 :: B, okS c = true) (hl : x0.length + x1.length + x2.length + x3.length + x4.length ≤ 100) (va vb vc vd ve : V)
    (r : Lw (sysOf D phi prog w K p loose mg mb lvl) mean rest ⟨[("cells", va), ("size", vb), ("turn", vc), ("terms", vd), ("told", ve), ("row", intsV ((A ++ 34 :: B).map symV ++ [0]))], none⟩ f) :
    Lw (sysOf D phi prog w K p loose mg mb lvl) mean (stL 25 :: stL 26 :: stL 27 :: stL 28 :: rest) ⟨[("cells", va), ("size", vb), ("turn", vc), ("terms", vd), ("texts", strsL [x0, x1, x2, x3, x4]), ("told", ve), ("row", intsV ((A ++ 34 :: B).map symV ++ [0]))], none⟩ f := by
  conv in (stL 25) => whnf
  conv in (stL 26) => whnf
  conv in (stL 27) => whnf
  conv in (stL 28) => whnf
  have jA := v_join [94] [x0, x1, x2] (by simp; (first | lia | omega))
  have jB := v_join [94] [x3, x4] (by simp; (first | lia | omega))
  have lA : A.length ≤ 104 := by rw [eA]; have := joinN_len [94] [x0, x1, x2]; simp at this; (first | lia | omega)
  have lB : B.length ≤ 104 := by rw [eB]; have := joinN_len [94] [x3, x4]; simp at this; (first | lia | omega)
  rw [← eA] at jA
  rw [← eB] at jB
  clear eA eB
  have eT : A ++ [34] ++ B = A ++ 34 :: B := by simp
  refine Lw.step (Xe.assign ok (n := 14) (v := .str (S (A ++ 34 :: B))) (r_bin (r_bin (r_meth rfl (by decide) rfl rfl (r_str (by decide)) (a_cons (r_slice (r_name rfl) p_none (p_some r_int) p_none rfl rfl rfl (slice_list (n := 5) (idx := [0, 1, 2]) rfl (by decide +kernel) rfl) rfl) a_nil rfl) jA) (r_str (by decide)) (b_app (b := [34]) (by simp; (first | lia | omega))))
    (r_meth rfl (by decide) rfl rfl (r_str (by decide)) (a_cons (r_slice (r_name rfl) (p_some r_int) p_none p_none rfl rfl rfl (slice_list (n := 5) (idx := [3, 4]) rfl (by decide +kernel) rfl) rfl) a_nil rfl) jB) (by rw [← eT]; exact b_app (by simp; (first | lia | omega)))) rfl rfl) ?_
  have lT : (A ++ 34 :: B).length ≤ 300 := by simp; (first | lia | omega)
  generalize A ++ 34 :: B = T at hok lT r ⊢
  have it : itemsV (.str (S T)) = some (T.map fun c => V.str (S [c])) := by show some (signsV (S T)) = _; rw [signs_S]
  refine Lw.step (Xe.assign ok (n := 14) (v := intsV ((T.filter fun c => !isL c).map symV ++ [0])) (r_bin (a := .list ((T.filter fun c => !isL c).map fun c => .int (symV c))) (r_comp1 ⟨rfl, rfl, rfl⟩ (i_val rfl (r_name rfl) it) (by rw [List.length_map]; (first | lia | omega)) ?_) (r_list (a_cons r_int a_nil rfl) (by decide)) ?_) rfl rfl) ?_
  · refine c_onf _ _ _ fun c hc => ?_
    obtain ⟨h1, h2, _, _⟩ := sign_ok (hok c hc)
    refine m_tst (t_val rfl (r_cmp rfl rfl (r_name rfl) (r_str (by decide)) rfl) (tb (by rw [h1]))) fun hL => ?_
    exact r_disp (es := dictS) rfl (by decide) (r_name rfl) (h2 (by simpa using hL))
  · refine (b_join ?_).trans ?_
    · have := List.length_filter_le (fun c => !isL c) T
      simp; (first | lia | omega)
    · unfold intsV
      rw [List.map_append, List.map_map]; rfl
  have lR : (T.map symV ++ [0]).length ≤ 301 := by simp; (first | lia | omega)
  refine Lw.step (Xe.ite ok (n := 14) (b := false) (t_val rfl (r_cmp rfl rfl (a := .list ((T.map symV ++ [0]).filter (fun s => decide (s < 256)) |>.map V.int)) (r_comp1 ⟨rfl, rfl, rfl⟩ (i_val rfl (r_name rfl) rfl) (by rw [List.length_map]; (first | lia | omega)) ?_) (r_name rfl) (c_ne ?_ (eqOk_ints _))) rfl) Ru.nil) ?_
  · exact c_onf _ _ _ fun s hs => m_tst (t_val rfl (r_fn rfl rfl rfl (a_cons (r_name rfl) a_nil rfl) hp.term) rfl) fun _ => r_name rfl
  · rw [filter_term T hok]
  refine Lw.step (Xe.ite ok (n := 14) (b := false) (t_val rfl (r_cmp rfl rfl (a := .list ((T.map symV ++ [0]).filter (fun s => decide (256 ≤ s)) |>.map V.int)) (b := .list ((T.filter isL).map fun c => .int (symV c))) (r_comp1 ⟨rfl, rfl, rfl⟩ (i_val rfl (r_name rfl) rfl) (by rw [List.length_map]; (first | lia | omega)) ?_) (r_comp1 ⟨rfl, rfl, rfl⟩ (i_val rfl (r_name rfl) it) (by rw [List.length_map]; (first | lia | omega)) ?_) (c_ne ?_ (eqOk_ints _))) rfl) Ru.nil) ?_
  · exact c_onf _ _ _ fun s hs => m_tst (t_val rfl (r_fn rfl rfl rfl (a_cons (r_name rfl) a_nil rfl) hp.nont) rfl) fun _ => r_name rfl
  · refine c_onf _ _ _ fun c hc => ?_
    obtain ⟨h1, _, h3, _⟩ := sign_ok (hok c hc)
    refine m_tst (t_val rfl (r_cmp rfl rfl (r_name rfl) (r_str (by decide)) rfl) (tb h1)) fun hL => ?_
    exact r_bin r_int (r_meth rfl (by decide) rfl rfl (r_str (by decide)) (a_cons (r_name rfl) a_nil rfl) rfl) (show some (V.int (256 + Txt.find "abcde" (S [c]))) = _ by rw [h3 hL])
  · rw [filter_nont T hok, List.map_map]; rfl
  exact Lw.cut (.cons rfl (.cons rfl (.cons rfl (.cons rfl (.cons rfl (.cons rfl .nil)))))) r

noncomputable def boolsV (l : List Bool) : V := .list (l.map .bool)
theorem builtin_max (a b : Int) : builtinV "max" [.int a, .int b] = some (.int (if b > a then b else a)) := by
  unfold builtinV
  rw [if_neg (by decide), if_neg (by decide), if_neg (by decide), if_pos rfl]
theorem law6 (ok : (sysOf D phi prog w K p loose mg mb lvl).Ok) (hp : Phi2 phi) {R : List Int} (hR : R.length ≤ 400) (c0 c1 c2 c3 c4 c5 : Int) (vb vc vd ve : V)
    (r : Lw (sysOf D phi prog w K p loose mg mb lvl) mean rest ⟨[("size", vb), ("turn", vc), ("terms", vd), ("told", ve), ("row", intsV R)], none⟩ f) :
    Lw (sysOf D phi prog w K p loose mg mb lvl) mean (stL 29 :: stL 30 :: stL 31 :: stL 32 :: rest) ⟨[("cells", cellsV c0 c1 c2 c3 c4 c5), ("size", vb), ("turn", vc), ("terms", vd), ("told", ve), ("row", intsV R)], none⟩ f := by
  conv in (stL 29) => whnf
  conv in (stL 30) => whnf
  conv in (stL 31) => whnf
  conv in (stL 32) => whnf
  have eC : cellsV c0 c1 c2 c3 c4 c5 = intsV [c0, c1, c2, c3, c4, c5] := rfl
  rw [eC]
  have lC : ([c0, c1, c2, c3, c4, c5] : List Int).length = 6 := rfl
  generalize [c0, c1, c2, c3, c4, c5] = C at lC
  have hRC : binV .Add (intsV R) (intsV C) = some (intsV (R ++ C)) := by
    unfold intsV
    rw [List.map_append]
    exact b_join (by rw [List.length_map, List.length_map]; (first | lia | omega))
  have app : ∀ a b : List Bool, a.length + b.length ≤ 1000 → binV .Add (boolsV a) (boolsV b) = some (boolsV (a ++ b)) := fun a b h => by
    unfold boolsV
    rw [List.map_append]
    exact b_join (by rw [List.length_map, List.length_map]; (first | lia | omega))
  have lRC : ((R ++ C).map V.int).length ≤ 2 ^ 20 := by simp; (first | lia | omega)
  have lC' : (C.map V.int).length ≤ 2 ^ 20 := by simp; (first | lia | omega)
  refine Lw.step (Xe.assign ok (n := 14) (v := boolsV ((R ++ C).map (fun s => s == 0) ++ C.map (fun s => decide (s < 256)) ++ C.map fun s => decide (256 ≤ s)))
    (r_bin (a := boolsV ((R ++ C).map (fun s => s == 0) ++ C.map (fun s => decide (s < 256)))) (b := boolsV (C.map fun s => decide (256 ≤ s))) (r_bin (a := boolsV ((R ++ C).map fun s => s == 0)) (b := boolsV (C.map fun s => decide (s < 256)))
      (r_comp0 ⟨rfl, rfl, rfl⟩ (i_val rfl (r_bin (r_name rfl) (r_name rfl) hRC) rfl) lRC ?_) (r_comp0 ⟨rfl, rfl, rfl⟩ (i_val rfl (r_name rfl) rfl) lC' ?_) (app _ _ (by simp; (first | lia | omega)))) (r_comp0 ⟨rfl, rfl, rfl⟩ (i_val rfl (r_name rfl) rfl) lC' ?_) (app _ _ (by simp; (first | lia | omega)))) rfl rfl) ?_
  · rw [List.map_map]; exact c_on _ _ fun s _ => m_some (r_fn rfl rfl rfl (a_cons (r_name rfl) a_nil rfl) hp.eof)
  · rw [List.map_map]; exact c_on _ _ fun s _ => m_some (r_fn rfl rfl rfl (a_cons (r_name rfl) a_nil rfl) hp.term)
  · rw [List.map_map]; exact c_on _ _ fun s _ => m_some (r_fn rfl rfl rfl (a_cons (r_name rfl) a_nil rfl) hp.nont)
  refine Lw.step (Xe.assign ok (n := 14) (v := boolsV ((R ++ C).map (fun s => s == 0) ++ C.map (fun s => decide (s < 256))))
    (r_bin (a := boolsV ((R ++ C).map fun s => s == 0)) (b := boolsV (C.map fun s => decide (s < 256)))
      (r_comp0 ⟨rfl, rfl, rfl⟩ (i_val rfl (r_bin (r_name rfl) (r_name rfl) hRC) rfl) lRC ?_) (r_comp0 ⟨rfl, rfl, rfl⟩ (i_val rfl (r_name rfl) rfl) lC' ?_) (app _ _ (by simp; (first | lia | omega)))) rfl rfl) ?_
  · rw [List.map_map]
    refine c_on _ _ fun s _ => m_some (r_un (r_name rfl) ?_)
    show some (V.bool (!(s != 0))) = some (V.bool (s == 0))
    rw [show (s != 0) = !(s == 0) from rfl, Bool.not_not]
  · rw [List.map_map]
    refine c_on _ _ fun s _ => m_some (r_cmp rfl rfl (r_bi rfl rfl rfl (by decide) (by decide) (b := .builtin "min") rfl (a_cons (r_name rfl) (a_cons r_int a_nil rfl) rfl) (builtin_min _ _)) (r_name rfl) ?_)
    show some (V.bool (minI s 255 == s)) = some (V.bool (decide (s < 256)))
    congr 2
    rw [Bool.eq_iff_iff, beq_iff_eq, decide_eq_true_eq]
    unfold minI
    split <;> (first | lia | omega)
  refine Lw.step (Xe.ite ok (n := 14) (b := false) (t_val rfl (r_cmp rfl rfl (r_name rfl) (r_bin (b := boolsV (C.map fun s => decide (256 ≤ s))) (r_name rfl) (r_comp0 ⟨rfl, rfl, rfl⟩ (i_val rfl (r_name rfl) rfl) lC' ?_) (app _ _ (by simp; (first | lia | omega)))) (c_ne rfl ?_)) rfl) Ru.nil) ?_
  · rw [List.map_map]
    refine c_on _ _ fun s _ => m_some (r_cmp rfl rfl (r_bi rfl rfl rfl (by decide) (by decide) (b := .builtin "max") rfl (a_cons (r_name rfl) (a_cons r_int a_nil rfl) rfl) (builtin_max _ _)) (r_name rfl) ?_)
    show some (V.bool ((if (256 : Int) > s then 256 else s) == s)) = some (V.bool (decide (256 ≤ s)))
    congr 2
    rw [Bool.eq_iff_iff, beq_iff_eq, decide_eq_true_eq]
    split <;> (first | lia | omega)
  · refine eqOk_flat fun v hv => ?_
    rw [List.mem_map] at hv
    obtain ⟨b, _, rfl⟩ := hv; rfl
  generalize hB : (R ++ C).map (fun s => s == 0) ++ C.map (fun s => decide (s < 256)) ++ C.map (fun s => decide (256 ≤ s)) = bs
  have lB : (bs.map V.bool).length ≤ 2 ^ 20 := by rw [← hB]; simp; (first | lia | omega)
  refine Lw.step (Xe.ite ok (n := 14) (b := false) (t_val rfl (r_cmp rfl rfl (a := .list []) (b := .list []) (r_comp1 ⟨rfl, rfl, rfl⟩ (i_val rfl (r_name rfl) rfl) lB ?_) (r_list a_nil (by decide)) (c_ne rfl (by rfl))) rfl) Ru.nil) ?_
  · refine (c_onf (l := bs) V.bool V.bool (fun _ => false) fun b _ => ?_).trans (by simp)
    refine m_tst (v := .bool b) (b := false) (t_bool ?_) fun h => by cases h
    cases b
    · exact b_and_t (t_val rfl (r_cmp rfl rfl (r_name rfl) r_bool rfl) rfl) (b_and_f (t_val rfl (r_cmp rfl rfl (r_name rfl) r_bool rfl) rfl))
    · exact b_and_f (t_val rfl (r_cmp rfl rfl (r_name rfl) r_bool rfl) rfl)
  exact Lw.cut (.cons rfl (.cons rfl (.cons rfl (.cons rfl (.cons rfl .nil))))) r
end
end Mine
namespace Mine
set_option maxRecDepth 100000

theorem symV_range (c : Nat) : 256 ≤ symV c → symV c - 256 < 5 ∧ symV c < 2 ^ 40 := by
  unfold symV
  repeat' split
  all_goals (intro h; first | (first | lia | omega) | (exact absurd h (by decide)))
theorem valOk_row (l : List Nat) (t : Nat) (h : l.length ≤ 400) : valOk (l.map symV ++ [0]) (colsT t) = true := by
  unfold valOk
  rw [Bool.and_eq_true]
  constructor
  · rw [List.all_eq_true]
    intro s hs
    have lc : (colsT t).length = 5 := by simp [colsT]
    rw [lc]
    simp only [Bool.or_eq_true, Bool.not_eq_true', decide_eq_false_iff_not, Bool.and_eq_true, decide_eq_true_eq]
    rcases List.mem_append.mp hs with hs | hs
    · rw [List.mem_map] at hs
      obtain ⟨c, _, rfl⟩ := hs
      by_cases h6 : 256 ≤ symV c
      · exact .inr (symV_range c h6)
      · exact .inl h6
    · rw [List.mem_singleton.mp hs]; exact .inl (by decide)
  · rw [decide_eq_true_eq]; simp; (first | lia | omega)
theorem pair_told (t : Nat) : pairV ((List.range 5).map fun (k : Nat) => V.tup [.str "here", .int (colF ((k : Int) + t))]) = some ((colsT t).map .int) := rfl
noncomputable def pairsV (g h : Nat → List Nat) : V := .list ((List.range 8).map fun q => strsL [g q, h q])
theorem range8_at {α : Type} (g : Nat → α) {k : Nat} (hk : k < 8) : ((List.range 8).map g)[k]? = some (g k) := by
  rw [List.getElem?_map, List.getElem?_range hk]; rfl
theorem pairs_at (g h : Nat → List Nat) {k : Nat} (hk : k < 8) : idxV (pairsV g h) (.int k) = some (strsL [g k, h k]) := by
  unfold pairsV
  simp only [idxV]
  rw [if_pos (by (first | lia | omega))]
  have : (k : Int).toNat = k := by (first | lia | omega)
  rw [this, range8_at _ hk]
theorem wN_ok (a b c d : Bool) : (wN a b c d).length = 4 ∧ ∀ x ∈ wN a b c d, x < 128 := by
  cases a <;> cases b <;> cases c <;> cases d <;> exact ⟨rfl, by decide⟩
theorem wT_ok (x : Int) (q : Nat) : (wT x q).length = 4 ∧ ∀ c ∈ wT x q, c < 128 := wN_ok _ _ _ _
theorem levOk_of {a b : List Nat} (ha : a.length ≤ 100) (hb : b.length ≤ 100) (h1 : ∀ c ∈ a, c < 128) (h2 : ∀ c ∈ b, c < 128) : levOk a b = true := by
  unfold levOk
  simp only [Bool.and_eq_true, List.all_eq_true, decide_eq_true_eq]
  exact ⟨⟨⟨h1, h2⟩, by (first | lia | omega)⟩, by (first | lia | omega)⟩
theorem pairA_ok (x : Int) (q : Nat) : (pairA x q).length ≤ 100 ∧ ∀ c ∈ pairA x q, c < 128 := by
  obtain ⟨h1, h2⟩ := wT_ok x q
  unfold pairA
  split
  · refine ⟨by simp [h1], fun c hc => ?_⟩
    rcases List.mem_cons.mp hc with rfl | hc
    · decide
    · exact h2 c hc
  · exact ⟨by (first | lia | omega), h2⟩
theorem pairB_ok (x : Int) (q : Nat) : (pairB x q).length ≤ 100 ∧ ∀ c ∈ pairB x q, c < 128 := by
  obtain ⟨h1, h2⟩ := wT_ok x q
  unfold pairB
  split
  · refine ⟨by simp [h1], fun c hc => ?_⟩
    rcases List.mem_cons.mp hc with rfl | hc
    · decide
    · exact h2 c hc
  · split
    · refine ⟨by simp; (first | lia | omega), fun c hc => ?_⟩
      simp only [List.append_assoc, List.mem_append, List.mem_singleton] at hc
      rcases hc with hc | rfl | hc
      · exact h2 c (List.mem_of_mem_take hc)
      · decide
      · exact h2 c (List.mem_of_mem_drop hc)
    · exact ⟨by (first | lia | omega), h2⟩

section
variable {D : Adr} {phi : Str → List V → Option V} {prog : Program} {w : World} {K : Frag} {p : Program} {loose : List Str} {mg mb : Str → Option Value} {lvl : Nat} {mean : ExcName → Option Value} {rest : List Stmt} {f : Flw}

theorem law7 (ok : (sysOf D phi prog w K p loose mg mb lvl).Ok) (hp : Phi2 phi) {t : Nat} {T0 T1 T2 T3 T4 : List Nat} (hl : (formA T0 T1 T2 ++ 34 :: formB T3 T4).length ≤ 400) (vb : V)
    (r : ∀ x y : Int, x = val0 t T0 T1 T2 → y = val1 t T3 T4 → Lw (sysOf D phi prog w K p loose mg mb lvl) mean rest ⟨[("size", vb), ("turn", .int t), ("terms", termsV [T0, T1, T2, T3, T4]), ("word", .str (S ((wT x 0).take 3))), ("number", .int 0)], some ("ways", ((List.range 8).map (wayT x y)).map .int)⟩ f) :
    Lw (sysOf D phi prog w K p loose mg mb lvl) mean (stL 33 :: stL 34 :: stL 35 :: stL 36 :: stL 37 :: stL 38 :: rest) ⟨[("size", vb), ("turn", .int t), ("terms", termsV [T0, T1, T2, T3, T4]), ("told", toldV t), ("row", intsV ((formA T0 T1 T2 ++ 34 :: formB T3 T4).map symV ++ [0]))], none⟩ f := by
  conv in (stL 33) => whnf
  conv in (stL 34) => whnf
  conv in (stL 35) => whnf
  conv in (stL 36) => whnf
  conv in (stL 37) => whnf
  conv in (stL 38) => whnf
  have hvals := hp.values (valOk_row (formA T0 T1 T2 ++ 34 :: formB T3 T4) t hl)
  rw [fold_all] at hvals
  have r := r _ _ rfl rfl
  generalize val0 t T0 T1 T2 = x at hvals r
  generalize val1 t T3 T4 = y at hvals r
  refine Lw.step (Xe.assign ok (n := 14) (v := intsV [x, y]) (r_fn rfl rfl rfl (a_cons (r_name rfl) (a_cons (r_pair ⟨rfl, rfl⟩ (r_name rfl) (Nat.le_of_ble_eq_true rfl) (pair_told t)) a_nil rfl) rfl) hvals) rfl rfl) ?_
  refine Lw.step (Xe.assign ok (n := 14) (v := pairsV (wT x) (wT y)) (r_comp0 ⟨rfl, rfl, rfl⟩ (i_range rfl (by decide) (a_cons r_int a_nil rfl) (g_range (k := 8) (by decide))) (Nat.le_of_ble_eq_true rfl) ?_) rfl rfl) ?_
  · refine c_on _ _ fun q hq => m_some ?_
    have hq : q ≤ 7 := by have := List.mem_range.mp hq; (first | lia | omega)
    refine r_list (a_cons (r_fn rfl rfl rfl (a_cons (r_idx (r_name rfl) r_int (ints_at (k := 0) (l := [x, y]) rfl (by decide)) rfl rfl) (a_cons (r_name rfl) a_nil rfl) rfl) ?_) (a_cons (r_fn rfl rfl rfl (a_cons (r_idx (r_name rfl) r_int (ints_at (k := 1) (l := [x, y]) rfl (by decide)) rfl rfl) (a_cons (r_name rfl) a_nil rfl) rfl) ?_) a_nil rfl) rfl) (by decide)
    · exact (hp.word hq).trans (by rw [wordF_S])
    · exact (hp.word hq).trans (by rw [wordF_S])
  have hx7 := wT_ok x 7
  have hy7 := wT_ok y 7
  have hx6 := wT_ok x 6
  have hy6 := wT_ok y 6
  refine Lw.step (Xe.assign ok (n := 14) (v := .str (S ((wT x 0).take 3))) (r_slice (r_idx (r_idx (r_name rfl) r_int (pairs_at (wT x) (wT y) (k := 0) (by decide)) rfl rfl) r_int (strs_at (k := 0) rfl (by decide)) rfl rfl) p_none (p_some r_int) p_none rfl rfl rfl (sl_take _ 3) rfl) rfl rfl) ?_
  have pa : ∀ (k : Nat), k < 8 → idxV (pairsV (wT x) (wT y)) (.int k) = some (strsL [wT x k, wT y k]) := fun k hk => pairs_at (wT x) (wT y) hk
  have s0 : ∀ (a b : List Nat), idxV (strsL [a, b]) (.int 0) = some (.str (S a)) := fun a b => strs_at (k := 0) rfl (by decide)
  have s1 : ∀ (a b : List Nat), idxV (strsL [a, b]) (.int 1) = some (.str (S b)) := fun a b => strs_at (k := 1) rfl (by decide)
  refine Lw.step (Xe.assign ok (n := 14) (v := pairsV (pairA x) (pairB y)) (r_bin (r_slice (r_name rfl) p_none (p_some r_int) p_none rfl rfl rfl (slice_list (n := 8) (idx := [0, 1, 2, 3, 4, 5]) rfl (by decide +kernel) rfl) rfl)
    (r_list (a_cons (r_list (a_cons (r_bin (r_str (by decide)) (r_idx (r_idx (r_name rfl) r_int (pa 6 (by decide)) rfl rfl) r_int (s0 _ _) rfl rfl) (b_app (a := [121]) (by simp; (first | lia | omega)))) (a_cons (r_bin (r_str (by decide)) (r_idx (r_idx (r_name rfl) r_int (pa 6 (by decide)) rfl rfl) r_int (s1 _ _) rfl rfl) (b_app (a := [122]) (by simp; (first | lia | omega)))) a_nil rfl) rfl) (by decide))
      (a_cons (r_list (a_cons (r_idx (r_idx (r_name rfl) r_int (pa 7 (by decide)) rfl rfl) r_int (s0 _ _) rfl rfl) (a_cons (r_bin (r_bin (r_slice (r_idx (r_idx (r_name rfl) r_int (pa 7 (by decide)) rfl rfl) r_int (s1 _ _) rfl rfl) p_none (p_some r_int) p_none rfl rfl rfl (sl_take _ 2) rfl) (r_str (by decide)) (b_app (b := [122]) (by simp; (first | lia | omega)))) (r_slice (r_idx (r_idx (r_name rfl) r_int (pa 7 (by decide)) rfl rfl) r_int (s1 _ _) rfl rfl) (p_some r_int) p_none p_none rfl rfl rfl (sl_drop _ 2) rfl) (b_app (by simp; (first | lia | omega)))) a_nil rfl) rfl) (by decide)) a_nil rfl) rfl) (by decide)) ?_) rfl rfl) ?_
  · exact (b_join (Nat.le_of_ble_eq_true rfl)).trans rfl
  refine Lw.step (Xe.assign ok (n := 9) r_int rfl rfl) ?_
  refine Lw.step (Xe.ownComp ok (n := 14) (xs := ((List.range 8).map (wayT x y)).map .int) (r_comp0 ⟨rfl, rfl, rfl⟩ (i_range rfl (by decide) (a_cons r_int a_nil rfl) (g_range (k := 8) (by decide))) (Nat.le_of_ble_eq_true rfl) ?_) (ints_scalar _) (by simp) rfl) ?_
  · rw [List.map_map]
    refine c_on _ _ fun q hq => m_some ?_
    have hq := List.mem_range.mp hq
    have pq := pairs_at (pairA x) (pairB y) hq
    have hA := pairA_ok x q
    have hB := pairB_ok y q
    have hlev := hp.lev (m := if q < 6 then 4 else 6) (levOk_of hA.1 hB.1 hA.2 hB.2)
    rw [way_lev x y q hq] at hlev
    refine r_fn rfl rfl rfl (a_cons (r_idx (r_idx (r_name rfl) (r_name rfl) pq rfl rfl) r_int (s0 _ _) rfl rfl) (a_cons (r_idx (r_idx (r_name rfl) (r_name rfl) pq rfl rfl) r_int (s1 _ _) rfl rfl) (a_cons (v := .int (if q < 6 then 4 else 6)) ?_ a_nil rfl) rfl) rfl) hlev
    by_cases h6 : q < 6
    · rw [if_pos h6]
      exact r_if (c := true) (t_val rfl (r_cmp rfl rfl (r_name rfl) r_int rfl) (td (by (first | lia | omega)))) r_int
    · rw [if_neg h6]
      exact r_if (c := false) (t_val rfl (r_cmp rfl rfl (r_name rfl) r_int rfl) (tn (by (first | lia | omega)))) r_int
  exact Lw.cut (.cons rfl (.cons rfl (.cons rfl (.cons rfl (.cons rfl .nil))))) r
end
end Mine
namespace Mine
set_option maxRecDepth 100000

noncomputable def allEnd : List Nat := [34, 32, 111, 102, 32, 34, 97, 108, 108, 34]
noncomputable def quoted (x : List Nat) : List Nat := [50, 53, 55, 32, 34] ++ x ++ allEnd
theorem quoted_read (x r : List Nat) : f257 ([50, 53, 55, 32, 34] ++ x ++ r) = q257 (x ++ r) := by
  unfold f257
  rw [List.append_assoc, show (([50, 53, 55, 32, 34] ++ (x ++ r) : List Nat).drop 3).take 2 = [32, 34] from rfl, if_pos rfl]; rfl
theorem half_read (m : Nat) : f257 (quoted (List.replicate (2 * m) 34 ++ [107])) = List.replicate m 34 ++ [107] := by
  unfold quoted
  rw [quoted_read, List.append_assoc, q_rep]
  rfl
theorem half_0 (m : Nat) : f257 ([50, 53, 55, 32, 34] ++ List.replicate (2 * m) 34) = List.replicate m 34 := by
  have := quoted_read (List.replicate (2 * m) 34) []
  rw [List.append_nil] at this
  rw [this, q_rep]; simp [q257]
theorem half_1 (m : Nat) : f257 ([50, 53, 55, 32, 34] ++ (List.replicate (2 * m) 34 ++ [34])) = List.replicate m 34 := by
  have := quoted_read (List.replicate (2 * m) 34 ++ [34]) []
  rw [List.append_nil] at this
  rw [this, List.append_assoc, q_rep]; simp [q257]
theorem half_k (m : Nat) : f257 ([50, 53, 55, 32, 34] ++ (List.replicate (2 * m) 34 ++ [107])) = List.replicate m 34 ++ [107] := by
  have := quoted_read (List.replicate (2 * m) 34 ++ [107]) []
  rw [List.append_nil] at this
  rw [this, List.append_assoc, q_rep]; simp [q257]

section
variable {D : Adr} {phi : Str → List V → Option V} {prog : Program} {w : World} {K : Frag} {p : Program} {loose : List Str} {mg mb : Str → Option Value} {lvl : Nat} {mean : ExcName → Option Value} {rest : List Stmt} {f : Flw}

theorem foldW (hp : Phi2 phi) (p1 p2 p3 p4 : Pos) (va vb vc vd : V) (xs : List V) : ∀ (ws : List Int) (a w0 : Int), ∃ w', FoldTo (sysOf D phi prog w K p loose mg mb lvl) kdL "way" "number" (.Call (.Name "add" p1) [.Name "number" p2, .Name "way" p3] [] p4) (ws.map .int)
    ⟨[("size", va), ("turn", vb), ("terms", vc), ("word", vd), ("number", .int a), ("way", .int w0)], some ("ways", xs)⟩ ⟨[("size", va), ("turn", vb), ("terms", vc), ("word", vd), ("number", .int (a + ws.sum)), ("way", .int w')], some ("ways", xs)⟩
  | [], a, w0 => ⟨w0, by rw [List.sum_nil, Int.add_zero]; exact .done⟩
  | x :: ws, a, w0 => by
    obtain ⟨w', h⟩ := foldW hp p1 p2 p3 p4 va vb vc vd xs ws (a + x) x
    refine ⟨w', FoldTo.turn (n := 9) (u := .int (a + x)) (.inl (r_fn rfl rfl rfl (a_cons (r_name rfl) (a_cons (r_name rfl) a_nil rfl) rfl) (hp.add rfl))) ?_⟩
    rw [List.sum_cons, ← Int.add_assoc]
    exact h

theorem law8 (ok : (sysOf D phi prog w K p loose mg mb lvl).Ok) (hp : Phi2 phi) {t : Nat} (T : List (List Nat)) (hT : ∀ ds ∈ T, ∀ d ∈ ds, d < 10) {w0 : Int} {ws : List Int} {n : Nat} (hs : (w0 :: ws).sum - 4 = (n : Int)) (hn : wt (xorB t T) = n) (va vd : V)
    (r : Lw (sysOf D phi prog w K p loose mg mb lvl) mean rest ⟨[("size", va), ("word", vd), ("number", .int n), ("cases", .int n)], some ("ways", (w0 :: ws).map .int)⟩ f) :
    Lw (sysOf D phi prog w K p loose mg mb lvl) mean (stL 39 :: stL 40 :: stL 41 :: rest) ⟨[("size", va), ("turn", .int t), ("terms", termsV T), ("word", vd), ("number", .int 0)], some ("ways", (w0 :: ws).map .int)⟩ f := by
  conv in (stL 39) => whnf
  conv in (stL 40) => whnf
  conv in (stL 41) => whnf
  obtain ⟨w', h⟩ := foldW (D := D) (prog := prog) (w := w) (K := K) (p := p) (loose := loose) (mg := mg) (mb := mb) (lvl := lvl) hp _ _ _ _ va (.int t) (termsV T) vd ((w0 :: ws).map .int) ws (0 + w0) w0
  refine Lw.step (Xe.forOwn ok rfl (by decide) (by decide) rfl rfl (ints_scalar _) (fun _ => rfl) (FoldTo.turn (n := 9) (u := .int (0 + w0)) (.inl (r_fn rfl rfl rfl (a_cons (r_name rfl) (a_cons (r_name rfl) a_nil rfl) rfl) (hp.add rfl))) h)) ?_
  have hsum : 0 + w0 + ws.sum - 4 = (n : Int) := by rw [← hs, List.sum_cons]; (first | lia | omega)
  refine Lw.step (Xe.assign ok (n := 9) (v := .int n) (r_fn rfl rfl rfl (a_cons (r_name rfl) (a_cons r_int a_nil rfl) rfl) (hp.sub (show some (V.int (0 + w0 + ws.sum - 4)) = _ by rw [hsum]))) rfl rfl) ?_
  have hd := hp.differ (terms := T.map digI) (turn := (t : Int))
  rw [cases_eq t T hT, hn] at hd
  refine Lw.step (Xe.assign ok (n := 9) (v := .int n) (r_fn rfl rfl rfl (a_cons (r_name rfl) (a_cons (r_name rfl) a_nil rfl) rfl) hd) rfl rfl) ?_
  exact Lw.cut (.cons rfl (.cons rfl (.cons rfl (.cons rfl .nil)))) r

theorem Lw.for {Y : Sys} {n : Nat} {σ : St} {body : List Stmt} {q : Pos} (ok : Y.Ok) {x : Str} {px : Pos} {iter : Expr} {xs : List V} (he : evIter (Mine.ev Y.C n) kdL σ.vars iter = some xs) (hset : notSet iter = true) (hx : nameOk kdL x = true) (P : List V → St → Prop)
    (turn : ∀ v vs σ, P (v :: vs) σ → ∃ σ₁, Ru Y kdL body (σ.set x v) .next σ₁ ∧ P vs σ₁) (h : P xs σ) (r : ∀ σ₁, P [] σ₁ → Lw Y mean rest σ₁ f) : Lw Y mean (.For (.Name x px) iter body [] q :: rest) σ f := by
  obtain ⟨σ₁, hx, hp⟩ := Xe.forAll ok he hset hx P turn h
  exact Lw.step hx (r σ₁ hp)
theorem four_div {s : Nat} (h1 : 1 ≤ s) (h4 : s ≤ 4) : binV .FloorDiv (.int 4) (.int s) = some (.int ((4 / s : Nat) : Int)) := by
  have : s = 1 ∨ s = 2 ∨ s = 3 ∨ s = 4 := by (first | lia | omega)
  rcases this with rfl | rfl | rfl | rfl <;> exact b_div (by decide) rfl
theorem two_pow {e : Nat} (h : e ≤ 4) : binV .Pow (.int 2) (.int e) = some (.int ((2 ^ e : Nat) : Int)) := by
  have : e = 0 ∨ e = 1 ∨ e = 2 ∨ e = 3 ∨ e = 4 := by (first | lia | omega)
  rcases this with rfl | rfl | rfl | rfl | rfl <;> exact b_pow (by decide +kernel) rfl
theorem pow_div {e q : Nat} (h : e ≤ 4) : binV .FloorDiv (.int ((2 ^ e * q : Nat) : Int)) (.int ((2 ^ e : Nat) : Int)) = some (.int q) := by
  refine b_div ?_ ?_
  · have : e = 0 ∨ e = 1 ∨ e = 2 ∨ e = 3 ∨ e = 4 := by (first | lia | omega)
    rcases this with rfl | rfl | rfl | rfl | rfl <;> decide
  · rw [Int.fdiv_eq_ediv_of_nonneg _ (Int.natCast_nonneg _)]
    have hp : 0 < 2 ^ e := Nat.two_pow_pos e
    rw [← Int.natCast_ediv, Nat.mul_div_cancel_left _ hp]
theorem half_div (m : Nat) : binV .FloorDiv (.int ((2 * m : Nat) : Int)) (.int 2) = some (.int m) := b_div (by decide) (by rw [Int.fdiv_eq_ediv_of_nonneg _ (by decide)]; (first | lia | omega))
theorem q_mul {m : Nat} (h : m ≤ 1000) : binV .Mult (.str ("\"" : Str)) (.int m) = some (.str (S (List.replicate m 34))) := by
  have := b_rep (a := [34]) (n := m) (Nat.le_of_ble_eq_true rfl) h
  rw [rep1] at this; exact this

theorem law9 (ok : (sysOf D phi prog w K p loose mg mb lvl).Ok) (hp : Phi2 phi) {s n : Nat} (h1 : 1 ≤ s) (h4 : s ≤ 4) (hd : 2 ^ (4 / s) ∣ n) (hn : n ≤ 32) (vd : V) {ws : List V}
    (r : Lw (sysOf D phi prog w K p loose mg mb lvl) mean rest ⟨[("word", vd), ("number", .int n), ("cases", .int n)], some ("ways", ws)⟩ f) :
    Lw (sysOf D phi prog w K p loose mg mb lvl) mean (stL 42 :: stL 43 :: stL 44 :: stL 45 :: stL 46 :: rest) ⟨[("size", .int s), ("word", vd), ("number", .int n), ("cases", .int n)], some ("ways", ws)⟩ f := by
  conv in (stL 42) => whnf
  conv in (stL 43) => whnf
  conv in (stL 44) => whnf
  conv in (stL 45) => whnf
  conv in (stL 46) => whnf
  have hdiv := four_div h1 h4
  have he4 : 4 / s ≤ 4 := Nat.div_le_self 4 s
  have he1 : 1 ≤ 4 / s := Nat.div_pos h4 h1
  generalize 4 / s = e at hdiv hd he4 he1
  obtain ⟨q, rfl⟩ := hd
  have hq : q ≤ 32 := Nat.le_trans (Nat.le_mul_of_pos_left q (Nat.two_pow_pos e)) hn
  refine Lw.step (Xe.assign ok (n := 12) (v := .str (S (List.replicate (2 ^ e * q) 34 ++ [107]))) (r_bin (r_fn rfl rfl rfl (a_cons (r_str (by decide)) (a_cons (r_name rfl) a_nil rfl) rfl) (hp.mul (q_mul (by (first | lia | omega))))) (r_str (by decide)) (b_app (b := [107]) (by simp; (first | lia | omega)))) rfl rfl) ?_
  refine Lw.for ok (n := 12) (i_range rfl (by decide) (a_cons (r_bin r_int (r_name rfl) hdiv) a_nil rfl) (g_range (k := e) (by (first | lia | omega)))) rfl rfl
    (fun vs σ => vs.length ≤ e ∧ Sub ⟨[("size", .int s), ("word", vd), ("number", .int ((2 ^ e * q : Nat) : Int)), ("cases", .int ((2 ^ e * q : Nat) : Int)), ("text", .str (S (List.replicate (2 ^ vs.length * q) 34 ++ [107])))], some ("ways", ws)⟩ σ) ?turn ⟨by simp, by
      rw [List.length_map, List.length_range]
      exact .of (.cons rfl (.cons rfl (.cons rfl (.cons rfl (.cons rfl .nil)))))⟩ ?_
  case turn =>
    rintro v vs σ ⟨hj, hs⟩
    have hj' : vs.length < e := hj
    have hle : 2 ^ vs.length * q * 2 ≤ 32 := by
      have h1 : 2 ^ vs.length * 2 ≤ 2 ^ e := by rw [← Nat.pow_succ]; exact Nat.pow_le_pow_right (by decide) hj'
      have h2 : 2 ^ vs.length * 2 * q ≤ 2 ^ e * q := Nat.mul_le_mul_right q h1
      have h3 : 2 ^ vs.length * q * 2 = 2 ^ vs.length * 2 * q := by rw [Nat.mul_assoc, Nat.mul_comm q 2, ← Nat.mul_assoc]
      (first | lia | omega)
    have hlen : 2 ^ (v :: vs).length * q = 2 * (2 ^ vs.length * q) := by
      rw [List.length_cons, Nat.pow_succ, Nat.mul_comm (2 ^ vs.length) 2, Nat.mul_assoc]
    rw [hlen] at hs
    generalize 2 ^ vs.length * q = m at hs hle
    refine ⟨⟨[("size", .int s), ("word", vd), ("number", .int ((2 ^ e * q : Nat) : Int)), ("cases", .int ((2 ^ e * q : Nat) : Int)), ("text", .str (S (List.replicate m 34 ++ [107])))], some ("ways", ws)⟩, Ru.weak (hs.set "k" v) ?_, Nat.le_of_lt hj', ⟨rfl, fun _ _ h => h⟩⟩
    have hr := hp.r257 (l := quoted (List.replicate (2 * m) 34 ++ [107])) (by unfold quoted allEnd; simp; (first | lia | omega)) rfl
    rw [half_read] at hr
    refine Ru.weakEnd (σ₁ := ⟨[("size", .int s), ("word", vd), ("number", .int ((2 ^ e * q : Nat) : Int)), ("cases", .int ((2 ^ e * q : Nat) : Int)), ("text", .str (S (List.replicate m 34 ++ [107]))), ("k", v)], some ("ways", ws)⟩) (.of (.cons rfl (.cons rfl (.cons rfl (.cons rfl (.cons rfl .nil)))))) ?_
    exact Ru.step (Xe.assign ok (n := 12) (r_fn rfl rfl rfl (a_cons (r_bin (r_bin (r_str (by decide)) (r_name rfl) (b_app (a := [50, 53, 55, 32, 34]) (by simp; (first | lia | omega)))) (r_str (by decide)) (b_app (b := allEnd) (by unfold allEnd; simp; (first | lia | omega)))) (a_cons r_bool a_nil rfl) rfl) hr) rfl rfl) Ru.nil
  rintro σ₁ ⟨_, hs⟩
  refine Lw.weak hs ?_
  rw [show 2 ^ ([] : List V).length * q = q from Nat.one_mul q]
  refine Lw.step (Xe.ite ok (n := 14) (b := false) (t_val rfl (r_cmp rfl rfl (r_name rfl) (r_bin (r_bin (r_str (by decide)) (r_bin (r_name rfl) (r_bin r_int (r_bin r_int (r_name rfl) hdiv) (two_pow he4)) (pow_div he4)) (q_mul (by (first | lia | omega)))) (r_str (by decide)) (b_app (b := [107]) (by simp; (first | lia | omega)))) rfl) (t_nn rfl)) Ru.nil) ?_
  have hev : ∃ m, 2 ^ e * q = 2 * m := ⟨2 ^ (e - 1) * q, by
    obtain ⟨e', rfl⟩ : ∃ e', e = e' + 1 := ⟨e - 1, by (first | lia | omega)⟩
    rw [Nat.add_sub_cancel, Nat.pow_succ, Nat.mul_comm (2 ^ e') 2, Nat.mul_assoc]⟩
  obtain ⟨m, hm⟩ := hev
  rw [hm] at hn r ⊢
  have qm := q_mul (m := 2 * m) (by (first | lia | omega))
  refine Lw.step (Xe.assign ok (n := 14) (v := strsL [List.replicate (2 * m) 34, List.replicate (2 * m) 34 ++ [34], List.replicate (2 * m) 34 ++ [107]]) (r_list (a_cons (r_fn rfl rfl rfl (a_cons (r_str (by decide)) (a_cons (r_name rfl) a_nil rfl) rfl) (hp.mul qm))
    (a_cons (r_bin (r_fn rfl rfl rfl (a_cons (r_str (by decide)) (a_cons (r_name rfl) a_nil rfl) rfl) (hp.mul qm)) (r_str (by decide)) (b_app (b := [34]) (by simp; (first | lia | omega))))
    (a_cons (r_bin (r_fn rfl rfl rfl (a_cons (r_str (by decide)) (a_cons (r_name rfl) a_nil rfl) rfl) (hp.mul qm)) (r_str (by decide)) (b_app (b := [107]) (by simp; (first | lia | omega)))) a_nil rfl) rfl) rfl) (by decide)) rfl rfl) ?_
  have rd : ∀ {x z : List Nat}, x.length ≤ 100 → f257 ([50, 53, 55, 32, 34] ++ x) = z → ∀ {n : Nat} {kd : Kd} {σ : Vars} {q1 q2 q3 q4 q5 q6 : Pos} {k1 k2 : Nat}, isGlob kd σ "_law_read" = true → σ.lookup ("end" : Str) = some (.str (S x)) →
      ev (sysOf D phi prog w K p loose mg mb lvl).C (n + 3) false kd σ (.Call (.Name "_law_read" q1) [.BinOp (.Constant (.str "257 \"") k1 q2) .Add (.Name "end" q3) q4, .Constant (.bool true) k2 q5] [] q6) = some (.str (S z)) := by
    intro x z hx hz n kd σ q1 q2 q3 q4 q5 q6 k1 k2 hg he
    rw [← hz]
    exact r_fn hg rfl rfl (a_cons (r_bin (r_str (by decide)) (r_name he) (b_app (a := [50, 53, 55, 32, 34]) (by simp; (first | lia | omega)))) (a_cons r_bool a_nil rfl) rfl) (hp.r257 (by simp; (first | lia | omega)) rfl)
  refine Lw.step (Xe.ite ok (n := 14) (b := false) (t_val rfl (r_cmp rfl rfl (a := strsL [List.replicate m 34, List.replicate m 34, List.replicate m 34 ++ [107]]) (r_comp0 ⟨rfl, rfl, rfl⟩ (i_val rfl (r_name rfl) rfl) (Nat.le_of_ble_eq_true rfl) (c_cons (m_some (rd (by simp; (first | lia | omega)) (half_0 m) rfl rfl)) (c_cons (m_some (rd (by simp; (first | lia | omega)) (half_1 m) rfl rfl)) (c_cons (m_some (rd (by simp; (first | lia | omega)) (half_k m) rfl rfl)) c_nil))))
    (r_list (a_cons (r_bin (r_str (by decide)) (r_bin (r_name rfl) r_int (half_div m)) (q_mul (by (first | lia | omega)))) (a_cons (r_bin (r_str (by decide)) (r_bin (r_name rfl) r_int (half_div m)) (q_mul (by (first | lia | omega)))) (a_cons (r_bin (r_bin (r_str (by decide)) (r_bin (r_name rfl) r_int (half_div m)) (q_mul (by (first | lia | omega)))) (r_str (by decide)) (b_app (b := [107]) (by simp; (first | lia | omega)))) a_nil rfl) rfl) rfl) (by decide)) (c_ne rfl (eqOk_strs _))) rfl) Ru.nil) ?_
  exact Lw.cut (.cons rfl (.cons rfl (.cons rfl .nil))) r
end
end Mine
namespace Mine
set_option maxRecDepth 100000

theorem m_lists (m : Nat) (h : m ≤ 1000) : binV .Mult (.list [.int 35]) (.int m) = some (.list ((List.replicate m (35 : Int)).map .int)) := by
  have : binV .Mult (.list [.int 35]) (.int m) = if ([V.int 35] : List V).length = 1 ∧ 0 ≤ (m : Int) ∧ (m : Int) ≤ 1000 then some (.list (repList [.int 35] m)) else none := rfl
  rw [this, if_pos (by simp; (first | lia | omega))]
  congr 2
  unfold repList
  rw [Int.toNat_natCast, List.map_replicate]
  clear this h
  induction m with
  | zero => rfl
  | succ m ih => rw [List.replicate_succ, List.flatten_cons, ih, List.replicate_succ]; rfl
section
variable {D : Adr} {phi : Str → List V → Option V} {prog : Program} {w : World} {K : Frag} {p : Program} {loose : List Str} {mg mb : Str → Option Value} {lvl : Nat} {mean : ExcName → Option Value} {rest : List Stmt} {f : Flw}

theorem law10 (ok : (sysOf D phi prog w K p loose mg mb lvl).Ok) (hp : Phi2 phi) {m : Nat} (hm : m ≤ 32) {x y z : Nat} (hx : x < 128) (hy : y < 128) (hz : z < 128)
    (h1 : lev [x, y, z] [x, 122, y, z] 0 = 2) (h2 : lev [x, y, z, x, y, z] [x, y, z] 0 = 6) (h3 : lev [x, y, z] [y, z, x] 4 = 4) (h4 : lev [x, y, z] [z, x, y] 4 = 4) (h5 : lev [x, y, z] [y, z, x] 2 = 3)
    (h6 : lev [121, x, y, z] [122, x, y, z] 2 = 2) (h7 : lev [x, y] [122, x, 122, y, 122] 6 = 6) (h8 : lev [x, y, z] z41 99 = 100) (h9 : lev z41 [x, y, z] 99 = 100) (a0 a1 a2 a3 a4 a5 a6 a7 : Int) :
    Lw (sysOf D phi prog w K p loose mg mb lvl) mean [stL 47, stL 48, stL 49, stL 50, stL 51, stL 52, stL 53, stL 54] ⟨[("word", .str (S [x, y, z])), ("number", .int ((2 * m : Nat) : Int)), ("cases", .int ((2 * m : Nat) : Int))], some ("ways", ([a0, a1, a2, a3, a4, a5, a6, a7] : List Int).map .int)⟩ (.ret (.bool true)) := by
  conv in (stL 47) => whnf
  conv in (stL 48) => whnf
  conv in (stL 49) => whnf
  conv in (stL 50) => whnf
  conv in (stL 51) => whnf
  conv in (stL 52) => whnf
  conv in (stL 53) => whnf
  conv in (stL 54) => whnf
  have i0 : idxV (.str (S [x, y, z])) (.int 0) = some (.str (S [x])) := ix_S _ 0 x rfl (by decide)
  have i1 : idxV (.str (S [x, y, z])) (.int 1) = some (.str (S [y])) := ix_S _ 1 y rfl (by decide)
  have i2 : idxV (.str (S [x, y, z])) (.int 2) = some (.str (S [z])) := ix_S _ 2 z rfl (by decide)
  have d1 : sliceV (.str (S [x, y, z])) (some 1) none none = some (.str (S [y, z])) := sl_drop [x, y, z] 1
  have t2 : sliceV (.str (S [x, y, z])) none (some 2) none = some (.str (S [x, y])) := sl_take [x, y, z] 2
  have ap : ∀ {a b : List Nat}, a.length + b.length ≤ 100 → binV .Add (.str (S a)) (.str (S b)) = some (.str (S (a ++ b))) := fun h => b_app (by (first | lia | omega))
  have lv : ∀ {a b : List Nat} {k v : Int}, lev a b k = v → a.length ≤ 100 → b.length ≤ 100 → (∀ c ∈ a, c < 128) → (∀ c ∈ b, c < 128) → phi "_levenshtein_distance" [.str (S a), .str (S b), .int k] = some (.int v) := fun h ha hb h1 h2 => by rw [← h]; exact hp.lev (levOk_of ha hb h1 h2)
  have z128 : ∀ c ∈ z41, c < 128 := by decide
  have zl : z41.length ≤ 100 := by decide
  have w1 : ∀ c ∈ [x, y, z], c < 128 := by simp; (first | lia | omega)
  have w2 : ∀ c ∈ [x, y, z, x, y, z], c < 128 := by simp; (first | lia | omega)
  have w3 : ∀ c ∈ [x, 122, y, z], c < 128 := by simp; (first | lia | omega)
  have w4 : ∀ c ∈ [y, z, x], c < 128 := by simp; (first | lia | omega)
  have w5 : ∀ c ∈ [z, x, y], c < 128 := by simp; (first | lia | omega)
  have w6 : ∀ c ∈ [121, x, y, z], c < 128 := by simp; (first | lia | omega)
  have w7 : ∀ c ∈ [122, x, y, z], c < 128 := by simp; (first | lia | omega)
  have w8 : ∀ c ∈ [x, y], c < 128 := by simp; (first | lia | omega)
  have w9 : ∀ c ∈ [122, x, 122, y, 122], c < 128 := by simp; (first | lia | omega)
  have r41 : binV .Mult (.str ("z" : Str)) (.int 41) = some (.str (S z41)) := b_rep (a := [122]) (n := 41) (Nat.le_of_ble_eq_true rfl) (by decide)
  refine Lw.step (Xe.extend ok (n := 14) rfl (r_list (a_cons (r_fn rfl rfl rfl (a_cons (r_name rfl) (a_cons (v := .str (S [x, 122, y, z])) (r_bin (r_bin (r_idx (r_name rfl) r_int i0 rfl rfl) (r_str (by decide)) (ap (a := [x]) (b := [122]) (Nat.le_of_ble_eq_true rfl))) (r_slice (r_name rfl) (p_some r_int) p_none p_none rfl rfl rfl d1 rfl) (ap (Nat.le_of_ble_eq_true rfl))) (a_cons r_int a_nil rfl) rfl) rfl) (lv h1 (Nat.le_of_ble_eq_true rfl) (Nat.le_of_ble_eq_true rfl) w1 w3))
    (a_cons (r_fn rfl rfl rfl (a_cons (v := .str (S [x, y, z, x, y, z])) (r_bin (r_name rfl) (r_name rfl) (ap (a := [x, y, z]) (b := [x, y, z]) (Nat.le_of_ble_eq_true rfl))) (a_cons (r_name rfl) (a_cons r_int a_nil rfl) rfl) rfl) (lv h2 (Nat.le_of_ble_eq_true rfl) (Nat.le_of_ble_eq_true rfl) w2 w1)) a_nil rfl) rfl) (by decide)) (ints_scalar _) rfl (Nat.le_of_ble_eq_true rfl) rfl) ?_
  refine Lw.step (Xe.extend ok (n := 14) rfl (r_list (a_cons (r_fn rfl rfl rfl (a_cons (r_name rfl) (a_cons (v := .str (S [y, z, x])) (r_bin (r_slice (r_name rfl) (p_some r_int) p_none p_none rfl rfl rfl d1 rfl) (r_idx (r_name rfl) r_int i0 rfl rfl) (ap (a := [y, z]) (b := [x]) (Nat.le_of_ble_eq_true rfl))) (a_cons r_int a_nil rfl) rfl) rfl) (lv h3 (Nat.le_of_ble_eq_true rfl) (Nat.le_of_ble_eq_true rfl) w1 w4))
    (a_cons (r_fn rfl rfl rfl (a_cons (r_name rfl) (a_cons (v := .str (S [z, x, y])) (r_bin (r_idx (r_name rfl) r_int i2 rfl rfl) (r_slice (r_name rfl) p_none (p_some r_int) p_none rfl rfl rfl t2 rfl) (ap (a := [z]) (b := [x, y]) (Nat.le_of_ble_eq_true rfl))) (a_cons r_int a_nil rfl) rfl) rfl) (lv h4 (Nat.le_of_ble_eq_true rfl) (Nat.le_of_ble_eq_true rfl) w1 w5)) a_nil rfl) rfl) (by decide)) rfl rfl (Nat.le_of_ble_eq_true rfl) rfl) ?_
  refine Lw.step (Xe.extend ok (n := 14) rfl (r_list (a_cons (r_fn rfl rfl rfl (a_cons (r_name rfl) (a_cons (v := .str (S [y, z, x])) (r_bin (r_slice (r_name rfl) (p_some r_int) p_none p_none rfl rfl rfl d1 rfl) (r_idx (r_name rfl) r_int i0 rfl rfl) (ap (a := [y, z]) (b := [x]) (Nat.le_of_ble_eq_true rfl))) (a_cons r_int a_nil rfl) rfl) rfl) (lv h5 (Nat.le_of_ble_eq_true rfl) (Nat.le_of_ble_eq_true rfl) w1 w4))
    (a_cons (r_fn rfl rfl rfl (a_cons (v := .str (S [121, x, y, z])) (r_bin (r_str (by decide)) (r_name rfl) (ap (a := [121]) (b := [x, y, z]) (Nat.le_of_ble_eq_true rfl))) (a_cons (v := .str (S [122, x, y, z])) (r_bin (r_str (by decide)) (r_name rfl) (ap (a := [122]) (b := [x, y, z]) (Nat.le_of_ble_eq_true rfl))) (a_cons r_int a_nil rfl) rfl) rfl) (lv h6 (Nat.le_of_ble_eq_true rfl) (Nat.le_of_ble_eq_true rfl) w6 w7)) a_nil rfl) rfl) (by decide)) rfl rfl (Nat.le_of_ble_eq_true rfl) rfl) ?_
  refine Lw.step (Xe.extend ok (n := 14) rfl (r_list (a_cons (r_fn rfl rfl rfl (a_cons (v := .str (S [x, y])) (r_slice (r_name rfl) p_none (p_some r_int) p_none rfl rfl rfl t2 rfl) (a_cons (v := .str (S [122, x, 122, y, 122]))
      (r_bin (r_bin (r_bin (r_bin (r_str (by decide)) (r_idx (r_name rfl) r_int i0 rfl rfl) (ap (a := [122]) (b := [x]) (Nat.le_of_ble_eq_true rfl))) (r_str (by decide)) (ap (b := [122]) (Nat.le_of_ble_eq_true rfl))) (r_idx (r_name rfl) r_int i1 rfl rfl) (ap (b := [y]) (Nat.le_of_ble_eq_true rfl))) (r_str (by decide)) (ap (b := [122]) (Nat.le_of_ble_eq_true rfl)))
      (a_cons r_int a_nil rfl) rfl) rfl) (lv h7 (Nat.le_of_ble_eq_true rfl) (Nat.le_of_ble_eq_true rfl) w8 w9)) a_nil rfl) (by decide)) rfl rfl (Nat.le_of_ble_eq_true rfl) rfl) ?_
  refine Lw.step (Xe.extend ok (n := 14) rfl (r_list (a_cons (r_fn rfl rfl rfl (a_cons (r_name rfl) (a_cons (r_bin (r_str (by decide)) r_int r41) (a_cons r_int a_nil rfl) rfl) rfl) (lv h8 (Nat.le_of_ble_eq_true rfl) zl w1 z128))
    (a_cons (r_fn rfl rfl rfl (a_cons (r_bin (r_str (by decide)) r_int r41) (a_cons (r_name rfl) (a_cons r_int a_nil rfl) rfl) rfl) (lv h9 zl (Nat.le_of_ble_eq_true rfl) z128 w1)) a_nil rfl) rfl) (by decide)) rfl rfl (Nat.le_of_ble_eq_true rfl) rfl) ?_
  refine Lw.weak (σ' := ⟨[("number", .int ((2 * m : Nat) : Int)), ("cases", .int ((2 * m : Nat) : Int))], some ("ways", ([a0, a1, a2, a3, a4, a5, a6, a7, 2, 6, 4, 4, 3, 2, 6, 100, 100] : List Int).map .int)⟩) ⟨rfl, AllHas.sub (.cons rfl (.cons rfl .nil))⟩ ?_
  refine Lw.step (Xe.ite ok (n := 14) (b := false) (t_val rfl (r_cmp rfl rfl (a := .list (([2, 6, 4, 4, 3, 2, 6, 100, 100] : List Int).map .int)) (r_slice (r_name rfl) (p_some r_int) p_none p_none rfl rfl rfl (slice_list (n := 17) (idx := [8, 9, 10, 11, 12, 13, 14, 15, 16]) rfl (by decide +kernel) rfl) rfl)
    (r_list (a_cons r_int (a_cons r_int (a_cons r_int (a_cons r_int (a_cons r_int (a_cons r_int (a_cons r_int (a_cons r_int (a_cons r_int a_nil rfl) rfl) rfl) rfl) rfl) rfl) rfl) rfl) rfl) (by decide)) (c_ne rfl (eqOk_ints _))) rfl) Ru.nil) ?_
  refine Lw.step (Xe.ite ok (n := 14) (b := false) (t_val rfl (r_cmp rfl rfl (a := .list []) (b := .list []) (r_comp1 ⟨rfl, rfl, rfl⟩ (i_val rfl (r_name rfl) rfl) (Nat.le_of_ble_eq_true rfl) ?_) (r_list a_nil (by decide)) (c_ne rfl (by rfl))) rfl) Ru.nil) ?_
  · refine (c_onf (l := [a0, a1, a2, a3, a4, a5, a6, a7, 2, 6, 4, 4, 3, 2, 6, 100, 100]) V.int V.int (fun _ => false) fun b _ => ?_).trans rfl
    exact m_tst (v := .int b) (b := false) (t_bool (b_or_f (t_val rfl (r_isi rfl rfl rfl rfl (r_name rfl) rfl) rfl) (b_or_f (t_not (b := true) (t_val rfl (r_isi rfl rfl rfl rfl (r_name rfl) rfl) rfl)) b_or_nil))) fun h => by cases h
  have hs := b_rep (a := [42]) (n := 2 * m) (Nat.le_of_ble_eq_true rfl) (by (first | lia | omega))
  rw [rep1] at hs
  have hsy := hp.syms (l := List.replicate (2 * m) 42) (by rw [List.length_replicate]; (first | lia | omega))
  rw [sym_star] at hsy
  refine Lw.of (Re.last (Xe.ret ok (n := 14) (r_cmp rfl rfl (r_fn rfl rfl rfl (a_cons (r_fn rfl rfl rfl (a_cons (r_str (by decide)) (a_cons (r_name rfl) a_nil rfl) rfl) (hp.mul hs)) a_nil rfl) hsy)
    (r_bin (r_bin (r_list (a_cons r_int a_nil rfl) (by decide)) (r_bin (r_name rfl) r_int (half_div m)) (m_lists m (by (first | lia | omega)))) (r_list (a_cons r_int a_nil rfl) (by decide)) (b_join ?_)) (c_eq rfl ?_))) rfl)
  · simp; (first | lia | omega)
  · refine eqOk_flat fun v hv => ?_
    rcases List.mem_append.mp hv with hv | hv
    · rw [List.mem_map] at hv
      obtain ⟨i, _, rfl⟩ := hv; rfl
    · rw [List.mem_singleton.mp hv]; rfl
end
end Mine
namespace Mine
set_option maxRecDepth 100000

theorem joinN_mem {sep : List Nat} {c : Nat} : ∀ {ls : List (List Nat)}, c ∈ joinN sep ls → c ∈ sep ∨ ∃ l ∈ ls, c ∈ l
  | [], h => by cases h
  | [a], h => .inr ⟨a, List.mem_cons_self, h⟩
  | a :: b :: r, h => by
    unfold joinN at h
    rcases List.mem_append.mp h with h | h
    · rcases List.mem_append.mp h with h | h
      · exact .inr ⟨a, List.mem_cons_self, h⟩
      · exact .inl h
    · rcases joinN_mem h with h | ⟨l, hl, hc⟩
      · exact .inl h
      · exact .inr ⟨l, List.mem_cons_of_mem _ hl, hc⟩
theorem litT_mem {c d : Nat} (h : c ∈ litT d) : okS c = true ∧ c ≠ 34 := by
  unfold litT at h
  have h5 : d % 5 < 5 := Nat.mod_lt _ (by decide)
  have key : c = 126 ∨ c = 97 + d % 5 := by
    rcases List.mem_append.mp h with h | h
    · split at h
      · exact .inl (List.mem_singleton.mp h)
      · cases h
    · exact .inr (List.mem_singleton.mp h)
  rcases key with rfl | rfl
  · exact ⟨rfl, by decide⟩
  · refine ⟨?_, by (first | lia | omega)⟩
    unfold okS
    simp only [Bool.or_eq_true, Bool.and_eq_true, decide_eq_true_eq]
    exact .inl (.inl (.inl (.inl ⟨by (first | lia | omega), by (first | lia | omega)⟩)))
theorem textT_mem {c : Nat} {ds : List Nat} (h : c ∈ textT ds) : okS c = true ∧ c ≠ 34 := by
  rcases joinN_mem h with h | ⟨l, hl, hc⟩
  · rw [List.mem_singleton.mp h]; exact ⟨rfl, by decide⟩
  · rw [List.mem_map] at hl
    obtain ⟨d, _, rfl⟩ := hl
    exact litT_mem hc
theorem form_mem {c : Nat} {Ts : List (List Nat)} (h : c ∈ joinN [94] (Ts.map textT)) : okS c = true ∧ c ≠ 34 := by
  rcases joinN_mem h with h | ⟨l, hl, hc⟩
  · rw [List.mem_singleton.mp h]; exact ⟨rfl, by decide⟩
  · rw [List.mem_map] at hl
    obtain ⟨d, _, rfl⟩ := hl
    exact textT_mem hc
theorem wt_le (f : Nat → Bool) : wt f ≤ 32 := by
  unfold wt
  exact Nat.le_trans List.countP_le_length (by simp)

theorem body_eq : bodyAt 81 = stL 0 :: stL 1 :: stL 2 :: stL 3 :: stL 4 :: stL 5 :: stL 6 :: stL 7 :: stL 8 :: stL 9 :: stL 10 :: stL 11 :: stL 12 :: stL 13 :: stL 14 :: stL 15 :: stL 16 :: stL 17 :: stL 18 :: stL 19 :: stL 20 :: stL 21 :: stL 22 :: stL 23 :: stL 24 :: stL 25 :: stL 26 :: stL 27 :: stL 28 ::
    stL 29 :: stL 30 :: stL 31 :: stL 32 :: stL 33 :: stL 34 :: stL 35 :: stL 36 :: stL 37 :: stL 38 :: stL 39 :: stL 40 :: stL 41 :: stL 42 :: stL 43 :: stL 44 :: stL 45 :: stL 46 :: [stL 47, stL 48, stL 49, stL 50, stL 51, stL 52, stL 53, stL 54] := by rfl

section
variable {D : Adr} {Er Ep : Addr} {prog : Program} {w : World} {K : Frag} {p : Program} {loose : List Str} {mg mb : Str → Option Value} {mean : ExcName → Option Value}

theorem law_run (b : Base D Er Ep K w) {ns : List Int} (hb : ∀ x ∈ ns, Builtin.Int.intBits x ≤ 2 ^ 20) (hl : ns.length ≤ 63) :
    Lw (sysC D prog w K p loose mg mb) mean (bodyAt 81) ⟨[("script", .list (ns.map .int))], none⟩ (.ret (.bool true)) := by
  have ok := okC (prog := prog) (p := p) (loose := loose) (mg := mg) (mb := mb) b
  have hp := phi2_B
  rw [body_eq]
  refine law0 ok hp hb hl fun c0 c1 c2 c3 c4 c5 => ?_
  refine law1 ok c0 c1 c2 c3 c4 c5 fun s t T0 T1 T2 T3 T4 hs1 hs4 ht hT => ?_
  refine law2 ok hp ht _ _ _ _ ?_
  refine law3 b ht _ _ _ _ _ ?_
  have hlen : ∀ P ∈ [T0, T1, T2, T3, T4], (textT P).length ≤ 12 := fun P hP => by
    have h1 := textT_len P
    have h2 := (hT P hP).1
    (first | lia | omega)
  have l0 := hlen T0 (by simp)
  have l1 := hlen T1 (by simp)
  have l2 := hlen T2 (by simp)
  have l3 := hlen T3 (by simp)
  have l4 := hlen T4 (by simp)
  have mA : ∀ c ∈ formA T0 T1 T2, okS c = true ∧ c ≠ 34 := fun c hc => form_mem (Ts := [T0, T1, T2]) hc
  have mB : ∀ c ∈ formB T3 T4, okS c = true ∧ c ≠ 34 := fun c hc => form_mem (Ts := [T3, T4]) hc
  have hok : ∀ c ∈ formA T0 T1 T2 ++ 34 :: formB T3 T4, okS c = true := fun c hc => by
    rcases List.mem_append.mp hc with hc | hc
    · exact (mA c hc).1
    · rcases List.mem_cons.mp hc with rfl | hc
      · rfl
      · exact (mB c hc).1
  have lT : (formA T0 T1 T2 ++ 34 :: formB T3 T4).length ≤ 300 := by
    have h1 := joinN_len [94] [textT T0, textT T1, textT T2]
    have h2 := joinN_len [94] [textT T3, textT T4]
    unfold formA formB
    simp at h1 h2 ⊢
    (first | lia | omega)
  refine law4 b (x0 := textT T0) (x1 := textT T1) (x2 := textT T2) (x3 := textT T3) (x4 := textT T4) (A := formA T0 T1 T2) (B := formB T3 T4) rfl rfl (fun c hc => (mA c hc).2) (fun c hc => (mB c hc).2) (by (first | lia | omega)) _ _ _ _ _ ?_
  rw [symL_map hok]
  refine law5 ok hp (A := formA T0 T1 T2) (B := formB T3 T4) rfl rfl hok (by (first | lia | omega)) _ _ _ _ _ ?_
  refine law6 ok hp (by rw [List.length_append, List.length_map]; simp only [List.length_cons, List.length_nil]; (first | lia | omega)) c0 c1 c2 c3 c4 c5 _ _ _ _ ?_
  refine law7 ok hp (by (first | lia | omega)) _ fun x y hx hy => ?_
  have hdig : ∀ ds ∈ [T0, T1, T2, T3, T4], ∀ d ∈ ds, d < 10 := fun ds h d hd => (hT ds h).2 d hd
  have hsum := ways_sum x y (xorB t [T0, T1, T2, T3, T4]) fun i hi => by rw [hx, hy]; exact val_bit t T0 T1 T2 T3 T4 hdig hi
  have hdvd := div_size t s hs1 hs4 [T0, T1, T2, T3, T4] fun P hP => Nat.le_of_eq (hT P hP).1
  have hle := wt_le (xorB t [T0, T1, T2, T3, T4])
  generalize hN : wt (xorB t [T0, T1, T2, T3, T4]) = n at hsum hdvd hle
  have h8 : (List.range 8).map (wayT x y) = [wayT x y 0, wayT x y 1, wayT x y 2, wayT x y 3, wayT x y 4, wayT x y 5, wayT x y 6, wayT x y 7] := rfl
  rw [h8] at hsum ⊢
  refine law8 ok hp [T0, T1, T2, T3, T4] hdig hsum hN _ _ ?_
  refine law9 ok hp hs1 hs4 hdvd hle _ ?_
  have he1 : 1 ≤ 4 / s := Nat.div_pos hs4 hs1
  obtain ⟨m, rfl⟩ : ∃ m, n = 2 * m := by
    obtain ⟨q, rfl⟩ := hdvd
    obtain ⟨e', he'⟩ : ∃ e', 4 / s = e' + 1 := ⟨4 / s - 1, by (first | lia | omega)⟩
    rw [he']
    exact ⟨2 ^ e' * q, by rw [Nat.pow_succ, Nat.mul_comm (2 ^ e') 2, Nat.mul_assoc]⟩
  obtain ⟨k1, k2, k3, k4, k5, k6, k7, k8, k9⟩ := nine (tbit x 0) (tbit x 1) (tbit x 2)
  have b0 : ∀ (q : Bool) (u v : Nat), u < 128 → v < 128 → (if q = true then u else v) < 128 := fun q u v h1 h2 => by split <;> assumption
  exact law10 ok hp (by (first | lia | omega)) (b0 (tbit x 0) 65 97 (by decide) (by decide)) (b0 (tbit x 1) 66 98 (by decide) (by decide)) (b0 (tbit x 2) 67 99 (by decide) (by decide)) k1 k2 k3 k4 k5 k6 k7 k8 k9 _ _ _ _ _ _ _ _
end
end Mine
namespace Mine
set_option maxRecDepth 100000

inductive DM (P : Params) : List (Str × Int) → List DictEntry → Prop where
  | nil : DM P [] []
  | cons {x : Str} {i : Int} {t t' : Tok} {tab : List (Str × Int)} {es : List DictEntry} : DM P tab es → DM P ((x, i) :: tab) (⟨PyData.keyHash P x, .str x t, .int i t'⟩ :: es)
theorem DM.keys {P : Params} {tab : List (Str × Int)} {es : List DictEntry} (h : DM P tab es) : KeysLit P es := by
  induction h with
  | nil => trivial
  | cons _ ih => exact ⟨⟨_, _, rfl, rfl⟩, ih⟩
theorem DM.find {P : Params} {tab : List (Str × Int)} {es : List DictEntry} (h : DM P tab es) (k : Str) :
    match tab.lookup k with | some i => ∃ t, (es.find? fun e => Value.isStrOf k e.key).map (·.val) = some (.int i t) | none => (es.find? fun e => Value.isStrOf k e.key).map (·.val) = none := by
  induction h with
  | nil => rfl
  | @cons x i t t' tab es _ ih =>
    rw [List.lookup_cons, List.find?_cons]
    have e : Value.isStrOf k (.str x t) = (x == k) := rfl
    dsimp only
    rw [e]
    cases hx : k == x with
    | true =>
      have := beq_iff_eq.mp hx; subst this
      simp
    | false =>
      have : (x == k) = false := by
        rw [beq_eq_false_iff_ne] at hx ⊢
        exact fun e => hx e.symm
      rw [this]
      exact ih
theorem DM.findBy {P : Params} {tab : List (Str × Int)} {es : Array DictEntry} (h : DM P tab es.toList) (k : Str) :
    match tab.lookup k with | some i => ∃ t, PySem.findBy Value.isStrOf es k = some (.int i t) | none => PySem.findBy Value.isStrOf es k = none := by
  obtain ⟨l⟩ := es
  have := h.find k
  unfold PySem.findBy
  simp only [List.find?_toArray]
  exact this

theorem chainT {α : Type} {f k : Str} {a x : α} {b : Option α} {P : Str → α → Prop} (h : (if f = k then some a else b) = some x) (h1 : P k a) (h2 : b = some x → P f x) : P f x := by
  by_cases e : f = k
  · rw [if_pos e] at h; cases h; exact e ▸ h1
  · rw [if_neg e] at h; exact h2 h
noncomputable def adr : Adr := ⟨21, 28, 35, 42, 49, 56, 100, 107, 117, 124, 131, 138, 145, 152, 159, 166, 173, 178, 183⟩
section
variable (P : Params)
noncomputable def KCn (P : Params) (f : Str) (i : Int) : Prop := ∃ t, nsIn (heapK P) mainGlobals f = some (some (.int i t))
theorem k_const : ∀ x i, gcT x = some i → ∃ t, nsIn (heapK P) mainGlobals x = some (some (.int i t)) := by
  intro x i h
  unfold gcT at h
  refine chainT (P := KCn P) h ⟨_, rfl⟩ fun h => ?_
  refine chainT (P := KCn P) h ⟨_, rfl⟩ fun h => ?_
  refine chainT (P := KCn P) h ⟨_, rfl⟩ fun h => ?_
  refine chainT (P := KCn P) h ⟨_, rfl⟩ fun h => ?_
  refine chainT (P := KCn P) h ⟨_, rfl⟩ fun h => ?_
  cases h
noncomputable def KFn (P : Params) (f : Str) (a : Addr) : Prop := nsIn (heapK P) mainGlobals f = some (some (.ref a)) ∧ keepIn (heapK P) (.ref a) = true
theorem k_fn : ∀ f a, fnT adr f = some a → nsIn (heapK P) mainGlobals f = some (some (.ref a)) ∧ keepIn (heapK P) (.ref a) = true := by
  intro x a h
  unfold fnT at h
  refine chainT (P := KFn P) h ⟨by kernel_rfl, by kernel_rfl⟩ fun h => ?_
  refine chainT (P := KFn P) h ⟨by kernel_rfl, by kernel_rfl⟩ fun h => ?_
  refine chainT (P := KFn P) h ⟨by kernel_rfl, by kernel_rfl⟩ fun h => ?_
  refine chainT (P := KFn P) h ⟨by kernel_rfl, by kernel_rfl⟩ fun h => ?_
  refine chainT (P := KFn P) h ⟨by kernel_rfl, by kernel_rfl⟩ fun h => ?_
  refine chainT (P := KFn P) h ⟨by kernel_rfl, by kernel_rfl⟩ fun h => ?_
  refine chainT (P := KFn P) h ⟨by kernel_rfl, by kernel_rfl⟩ fun h => ?_
  refine chainT (P := KFn P) h ⟨by kernel_rfl, by kernel_rfl⟩ fun h => ?_
  refine chainT (P := KFn P) h ⟨by kernel_rfl, by kernel_rfl⟩ fun h => ?_
  refine chainT (P := KFn P) h ⟨by kernel_rfl, by kernel_rfl⟩ fun h => ?_
  refine chainT (P := KFn P) h ⟨by kernel_rfl, by kernel_rfl⟩ fun h => ?_
  refine chainT (P := KFn P) h ⟨by kernel_rfl, by kernel_rfl⟩ fun h => ?_
  refine chainT (P := KFn P) h ⟨by kernel_rfl, by kernel_rfl⟩ fun h => ?_
  refine chainT (P := KFn P) h ⟨by kernel_rfl, by kernel_rfl⟩ fun h => ?_
  refine chainT (P := KFn P) h ⟨by kernel_rfl, by kernel_rfl⟩ fun h => ?_
  refine chainT (P := KFn P) h ⟨by kernel_rfl, by kernel_rfl⟩ fun h => ?_
  refine chainT (P := KFn P) h ⟨by kernel_rfl, by kernel_rfl⟩ fun h => ?_
  refine chainT (P := KFn P) h ⟨by kernel_rfl, by kernel_rfl⟩ fun h => ?_
  refine chainT (P := KFn P) h ⟨by kernel_rfl, by kernel_rfl⟩ fun h => ?_
  cases h
theorem k_free : ∀ x : Str, x ∈ (["len", "sum", "min", "max", "str", "list", "range", "isinstance", "bool", "int"] : List Str) → nsIn (heapK P) mainGlobals x = some none := by
  intro x hx
  simp only [List.mem_cons, List.not_mem_nil, or_false] at hx
  rcases hx with rfl | rfl | rfl | rfl | rfl | rfl | rfl | rfl | rfl | rfl <;> kernel_rfl
end
end Mine
namespace Mine
set_option maxRecDepth 100000
noncomputable def dOk (i : Nat) (ps : List Str) : Bool := !(fnScope (topAt i)).isCoroutine && !(fnScope (topAt i)).isGenerator && (fnScope (topAt i)).kind == .function && (ps.all fun x => nameOk (kdAt i) x) && decide ps.Nodup && ((kdAt i).lookup ("__debug__" : Str)).isNone
theorem defK_of {K : Frag} {a cd : Addr} {i : Nat} {pm : Str} {pt : Tok} {ps : List Str} (h : K.lookup a = some (fo i pm pt cd)) (hc : codeIn K (.ref cd) (fnName (topAt i)) = true) (hn : (fnScope (topAt i)).names = kdAt i) (hd : dOk i ps = true)
    (hb : ∀ vals : List Value, vals.length = ps.length → bindArgs (fdAt i pm pt cd) ⟨vals, []⟩ = pure (ps.zip vals)) : DefK K a ps (kdAt i) (bodyAt i) := by
  unfold dOk at hd
  simp only [Bool.and_eq_true, Bool.not_eq_true', beq_iff_eq, decide_eq_true_eq, Option.isNone_iff_eq_none] at hd
  obtain ⟨⟨⟨⟨⟨h1, h2⟩, h3⟩, h4⟩, h5⟩, h6⟩ := hd
  exact ⟨⟨_, _, _, _, h, hc, rfl, hn, rfl, rfl, rfl, h1, h2, h3, hb⟩, h4, h5, h6⟩
theorem bind1 {fd : FuncData} {p : Str} (h : ∀ a, bindArgs fd ⟨[a], []⟩ = pure [(p, a)]) (vals : List Value) (e : vals.length = ([p] : List Str).length) : bindArgs fd ⟨vals, []⟩ = pure (([p] : List Str).zip vals) := by
  obtain ⟨a, rfl⟩ := List.length_eq_one_iff.mp e
  exact h a
theorem bind2 {fd : FuncData} {p q : Str} (h : ∀ a b, bindArgs fd ⟨[a, b], []⟩ = pure [(p, a), (q, b)]) (vals : List Value) (e : vals.length = ([p, q] : List Str).length) : bindArgs fd ⟨vals, []⟩ = pure (([p, q] : List Str).zip vals) := by
  cases vals with
  | nil => cases e
  | cons a r =>
    obtain ⟨b, rfl⟩ := List.length_eq_one_iff.mp (Nat.succ.inj e)
    exact h a b
theorem bind3 {fd : FuncData} {p q r : Str} (h : ∀ a b c, bindArgs fd ⟨[a, b, c], []⟩ = pure [(p, a), (q, b), (r, c)]) (vals : List Value) (e : vals.length = ([p, q, r] : List Str).length) : bindArgs fd ⟨vals, []⟩ = pure (([p, q, r] : List Str).zip vals) := by
  cases vals with
  | nil => cases e
  | cons a r =>
    cases r with
    | nil => cases Nat.succ.inj e
    | cons b r =>
      obtain ⟨c, rfl⟩ := List.length_eq_one_iff.mp (Nat.succ.inj (Nat.succ.inj e))
      exact h a b c
section
variable (P : Params)
theorem k_dict : ∀ x es, gdT x = some es → ∃ a E n, nsIn (heapK P) mainGlobals x = some (some (.ref a)) ∧ (a == sysModules) = false ∧ (heapK P).lookup a = some ⟨.type "dict", none, .dict E n, #[]⟩ ∧ KeysLit P E.toList ∧
    ∀ k, match es.lookup k with | some i => ∃ t, findBy Value.isStrOf E k = some (.int i t) | none => findBy Value.isStrOf E k = none := by
  intro x es h
  unfold gdT at h
  by_cases e : x = "EXACT_TOKEN_TYPES"
  · rw [if_pos e] at h; subst e; cases h
    have key : ∃ E n, (heapK P).lookup 108 = some ⟨.type "dict", none, .dict E n, #[]⟩ ∧ DM P tokT E.toList := ⟨_, _, rfl, by unfold tokT; repeat (first | exact DM.nil | apply DM.cons)⟩
    obtain ⟨E, n, h1, h2⟩ := key
    exact ⟨108, E, n, by kernel_rfl, by decide, h1, h2.keys, h2.findBy⟩
  · rw [if_neg e] at h; cases h
theorem k_d0 : DefK (heapK P) 21 ["a", "b"] (kdAt 1) (bodyAt 1) := defK_of (i := 1) (pm := "cpy313.operator") (pt := 187) (cd := 20) (by kernel_rfl) (by kernel_rfl) (by kernel_rfl) (by kernel_rfl) (bind2 fun _ _ => by kernel_rfl)
theorem k_d1 : DefK (heapK P) 28 ["a", "b"] (kdAt 2) (bodyAt 2) := defK_of (i := 2) (pm := "cpy313.operator") (pt := 187) (cd := 27) (by kernel_rfl) (by kernel_rfl) (by kernel_rfl) (by kernel_rfl) (bind2 fun _ _ => by kernel_rfl)
theorem k_d2 : DefK (heapK P) 35 ["a"] (kdAt 3) (bodyAt 3) := defK_of (i := 3) (pm := "cpy313.operator") (pt := 187) (cd := 34) (by kernel_rfl) (by kernel_rfl) (by kernel_rfl) (by kernel_rfl) (bind1 fun _ => by kernel_rfl)
theorem k_d3 : DefK (heapK P) 42 ["a", "b"] (kdAt 4) (bodyAt 4) := defK_of (i := 4) (pm := "cpy313.operator") (pt := 187) (cd := 41) (by kernel_rfl) (by kernel_rfl) (by kernel_rfl) (by kernel_rfl) (bind2 fun _ _ => by kernel_rfl)
theorem k_d4 : DefK (heapK P) 49 ["a", "b"] (kdAt 5) (bodyAt 5) := defK_of (i := 5) (pm := "cpy313.operator") (pt := 187) (cd := 48) (by kernel_rfl) (by kernel_rfl) (by kernel_rfl) (by kernel_rfl) (bind2 fun _ _ => by kernel_rfl)
theorem k_d5 : DefK (heapK P) 56 ["a", "b"] (kdAt 6) (bodyAt 6) := defK_of (i := 6) (pm := "cpy313.operator") (pt := 187) (cd := 55) (by kernel_rfl) (by kernel_rfl) (by kernel_rfl) (by kernel_rfl) (bind2 fun _ _ => by kernel_rfl)
theorem k_d6 : DefK (heapK P) 100 ["resp", "peer"] (kdAt 11) (bodyAt 11) := defK_of (i := 11) (pm := "cpy313.ftplib") (pt := 236) (cd := 99) (by kernel_rfl) (by kernel_rfl) (by kernel_rfl) (by kernel_rfl) (bind2 fun _ _ => by kernel_rfl)
theorem k_d7 : DefK (heapK P) 107 ["resp"] (kdAt 12) (bodyAt 12) := defK_of (i := 12) (pm := "cpy313.ftplib") (pt := 236) (cd := 106) (by kernel_rfl) (by kernel_rfl) (by kernel_rfl) (by kernel_rfl) (bind1 fun _ => by kernel_rfl)
theorem k_d8 : DefK (heapK P) 117 ["x"] (kdAt 65) (bodyAt 65) := defK_of (i := 65) (pm := "cpy313.token") (pt := 314) (cd := 116) (by kernel_rfl) (by kernel_rfl) (by kernel_rfl) (by kernel_rfl) (bind1 fun _ => by kernel_rfl)
theorem k_d9 : DefK (heapK P) 124 ["x"] (kdAt 66) (bodyAt 66) := defK_of (i := 66) (pm := "cpy313.token") (pt := 314) (cd := 123) (by kernel_rfl) (by kernel_rfl) (by kernel_rfl) (by kernel_rfl) (bind1 fun _ => by kernel_rfl)
theorem k_d10 : DefK (heapK P) 131 ["x"] (kdAt 67) (bodyAt 67) := defK_of (i := 67) (pm := "cpy313.token") (pt := 314) (cd := 130) (by kernel_rfl) (by kernel_rfl) (by kernel_rfl) (by kernel_rfl) (bind1 fun _ => by kernel_rfl)
theorem k_d11 : DefK (heapK P) 138 ["ch_a", "ch_b"] (kdAt 72) (bodyAt 72) := defK_of (i := 72) (pm := "cpy313.traceback") (pt := 534) (cd := 137) (by kernel_rfl) (by kernel_rfl) (by kernel_rfl) (by kernel_rfl) (bind2 fun _ _ => by kernel_rfl)
theorem k_d12 : DefK (heapK P) 145 ["a", "b", "max_cost"] (kdAt 73) (bodyAt 73) := defK_of (i := 73) (pm := "cpy313.traceback") (pt := 534) (cd := 144) (by kernel_rfl) (by kernel_rfl) (by kernel_rfl) (by kernel_rfl) (bind3 fun _ _ _ => by kernel_rfl)
theorem k_d13 : DefK (heapK P) 152 ["reply", "quoted"] (kdAt 75) (bodyAt 75) := defK_of (i := 75) (pm := "law_wo0052_01") (pt := 570) (cd := 151) (by kernel_rfl) (by kernel_rfl) (by kernel_rfl) (by kernel_rfl) (bind2 fun _ _ => by kernel_rfl)
theorem k_d14 : DefK (heapK P) 159 ["text"] (kdAt 76) (bodyAt 76) := defK_of (i := 76) (pm := "law_wo0052_01") (pt := 570) (cd := 158) (by kernel_rfl) (by kernel_rfl) (by kernel_rfl) (by kernel_rfl) (bind1 fun _ => by kernel_rfl)
theorem k_d15 : DefK (heapK P) 166 ["row", "columns"] (kdAt 77) (bodyAt 77) := defK_of (i := 77) (pm := "law_wo0052_01") (pt := 570) (cd := 165) (by kernel_rfl) (by kernel_rfl) (by kernel_rfl) (by kernel_rfl) (bind2 fun _ _ => by kernel_rfl)
theorem k_d16 : DefK (heapK P) 173 ["place"] (kdAt 78) (bodyAt 78) := defK_of (i := 78) (pm := "law_wo0052_01") (pt := 570) (cd := 172) (by kernel_rfl) (by kernel_rfl) (by kernel_rfl) (by kernel_rfl) (bind1 fun _ => by kernel_rfl)
theorem k_d17 : DefK (heapK P) 178 ["terms", "turn"] (kdAt 79) (bodyAt 79) := defK_of (i := 79) (pm := "law_wo0052_01") (pt := 570) (cd := 177) (by kernel_rfl) (by kernel_rfl) (by kernel_rfl) (by kernel_rfl) (bind2 fun _ _ => by kernel_rfl)
theorem k_d18 : DefK (heapK P) 183 ["value", "part"] (kdAt 80) (bodyAt 80) := defK_of (i := 80) (pm := "law_wo0052_01") (pt := 570) (cd := 182) (by kernel_rfl) (by kernel_rfl) (by kernel_rfl) (by kernel_rfl) (bind2 fun _ _ => by kernel_rfl)
theorem k_er : ExcK (heapK P) "error_reply" 79 := ⟨by kernel_rfl, ⟨_, _, _, _, by kernel_rfl, PySem.F.excBase_Exception⟩, by kernel_rfl, by kernel_rfl⟩
theorem k_ep : ExcK (heapK P) "error_proto" 91 := ⟨by kernel_rfl, ⟨_, _, _, _, by kernel_rfl, PySem.F.excBase_Exception⟩, by kernel_rfl, by kernel_rfl⟩
end
theorem base (w : World) : Base adr 79 91 (heapK w.params) w where
  const := k_const _
  dict := k_dict _
  fn := k_fn _
  free := k_free _
  d0 := k_d0 _
  d1 := k_d1 _
  d2 := k_d2 _
  d3 := k_d3 _
  d4 := k_d4 _
  d5 := k_d5 _
  d6 := k_d6 _
  d7 := k_d7 _
  d8 := k_d8 _
  d9 := k_d9 _
  d10 := k_d10 _
  d11 := k_d11 _
  d12 := k_d12 _
  d13 := k_d13 _
  d14 := k_d14 _
  d15 := k_d15 _
  d16 := k_d16 _
  d17 := k_d17 _
  d18 := k_d18 _
  er := k_er _
  ep := k_ep _
  rr := by kernel_rfl
  pr := by kernel_rfl
  pp := by kernel_rfl
end Mine
namespace Mine
set_option maxRecDepth 100000

theorem ints_well {P : Params} {h : Heap} : ∀ {ns : List Int} {vs : List Value}, WellAll P h vs (ofPys (ns.map PyData.int)) → VReps [] h (ns.map V.int) vs
  | [], _, x => by
    cases x; exact .nil
  | n :: ns, _, x => by
    cases x with
    | cons a r =>
      cases a
      exact .cons .int (ints_well r)

theorem post_true (R : WRecords) (args ds : List WData) : (WShape.has R (.bool true) .bool && WTm.holds R (.eq .res (.lit (.bool true))) { args := args, res := some (.bool true), after := ds }) = true := by
  have h : (WTm.eq .res (.lit (.bool true))).value R { args := args, res := some (.bool true), after := ds } = some (.bool true) := (w_eq (w_res rfl) w_lit).trans (by simp [same])
  unfold WTm.holds
  rw [h]
  simp [WShape.has, WShape.arms]
section
variable {D : Adr} {Er Ep : Addr} {prog : Program} {w : World} {K : Frag} {p : Program} {loose : List Str} {mg mb : Str → Option Value} {mean : ExcName → Option Value}
theorem enter_law (b : Base D Er Ep K w) {fa l : Addr} {o : Obj} {fd : FuncData} {s₁ : Shared} (X : K.In s₁.heap) (T : Top p loose mean mg mb s₁.heap) (ho : s₁.heap.get? fa = some o) (hd : o.data = .func fd) (hcd : s₁.heap.CodeRec fd.code fd.qualname) (hbody : fd.body = .stmts (bodyAt 81)) (hnames : fd.scope.names = kdL)
    (hclo : fd.closure = []) (hgl : fd.globals = mainGlobals) (hbl : fd.builtins = builtinsNs) (hco : fd.scope.isCoroutine = false) (hgen : fd.scope.isGenerator = false) (hk : fd.scope.kind = .function) (hbind : ∀ v, bindArgs fd ⟨[v], []⟩ = pure [(("script" : Str), v)])
    {ns : List Int} (hW : Well w.params s₁.heap (.ref l) (ofPy (PyData.list (ns.map PyData.int)))) (hlay : (PyData.list (ns.map PyData.int)).layable0 = true) (hlen : ns.length ≤ 63) {R : Result → Shared → Prop}
    (hR : ∀ h' tk, KeepsH s₁.heap h' → R (.ok (.ret (.bool true))) { s₁ with heap := h', toks := tk }) : codeAny (model prog w) callerA (.call (.ref fa) ⟨[.ref l], []⟩) R s₁ := by
  have rv : VRep [] s₁.heap (.list (ns.map V.int)) (.ref l) := by
    cases hW with
    | list e r => exact .list (by rw [List.length_map]; (first | lia | omega)) (by simp) ⟨_, e⟩ (by simpa using ints_well r)
  have hscr : fd.scope.names.lookup ("script" : Str) = some .cell := by rw [hnames]; rfl
  refine codeAny_call_cells (R := R) (by decide) ho hd T.nolimit hcd hbody (hbind _) hclo (fun x hx => ?_) (fun s' ic => ?_) hco hgen hk
  · rw [List.mem_singleton.mp hx]
    exact .inr ⟨hscr, cellsFrom_some _ _ _ (.inl hscr)⟩
  · have hfr : (callEnvC fd s₁.heap.objs.size fa).frame = some (callEnvC fd s₁.heap.objs.size fa).locals := rfl
    have hst : (callerA.deeper (callEnvC fd s₁.heap.objs.size fa)).frames = some [callEnvC fd s₁.heap.objs.size fa] := rfl
    have room : Room 2 (callerA.deeper (callEnvC fd s₁.heap.objs.size fa)) := ⟨rfl, by show 1 + claimMargin + 1 + 2 + 20 < recursionLimit; decide, by show 4 + 3 + 3 * 2 + 100 < cLine; decide⟩
    generalize henv : callEnvC fd s₁.heap.objs.size fa = env at ic hfr hst room ⊢
    have hsc : env.scope = fd.scope := by rw [← henv]; rfl
    have hbs := bind_slot (env := env) [("script" : Str)] [.ref l] (fun _ => none) (fun _ => none) (by simp) fun x hx => by
      rw [List.mem_singleton.mp hx]
      unfold Env.kindOf; rw [hsc]; exact .inr hscr
    have F : (sysC D prog w K p loose mg mb).Fr s₁ [] env kdL := ⟨⟨X, topRead_of T⟩, fun _ h => (by cases h), by rw [hsc]; exact hk, by rw [← henv]; exact hgl, by rw [← henv]; exact hbl, by rw [hsc]; exact hnames, rfl, fun n hn => by rw [← henv]; exact cellsFrom_some _ _ _ (.inl (by rw [hnames]; exact hn))⟩
    have Rp : SRep s₁ [] [] env ⟨[("script", .list (ns.map V.int))], none⟩ s' := ⟨[], _, _, ⟨ic, fun x v e => by
      obtain ⟨val, e1, e2⟩ := zip_lookup [("script" : Str)] (VReps.one rv) e
      exact ⟨val, hbs.1 x val e1, e2.keeps ic.toInCall.keep⟩, rfl⟩, fun q hq => by cases hq⟩
    have run := law_run (prog := prog) (p := p) (loose := loose) (mg := mg) (mb := mb) (mean := mean) b (ns := ns) (fun x hx => intBits_le_of_item hx hlay) hlen
    refine wpAny_mono (run.out _ s₁ s' [] [] env room F Rp hst hfr T) (fun fl s'' q => ?_) fun _ _ f => f.elim
    obtain ⟨σ', val, h', tk', rfl, rfl, k, rb⟩ := q
    rw [rb.toBool]
    exact hR h' tk' k
end
end Mine
set_option maxRecDepth 100000 in
set_option maxHeartbeats 8000000 in
theorem PySem.Challenge.cw_wo0052_01_holds : PySem.Challenge.rw_wo0052_01.Holds := by
  refine holds_law Mine.said0 fun said => ?_
  refine holds_open (q := Mine.vw) (loose := Mine.lse) (Xt := fun _ => true) (XP := fun _ _ => True) (Yf := Mine.hook.obs) (Ya := Mine.hook.val) (YP := Mine.hook.says) (N := 5590) Mine.leftO (Hook.of Mine.hook) (Hook.keeps Mine.hook) (fun _ _ => trivial) (fun _ _ _ _ _ => trivial) (by rfl) (by rfl) (by rfl) (fun s _ => recFacts_nil rfl) (by rfl) said (by decide +kernel) ⟨rfl, rfl, rfl, rfl, rfl, by decide +kernel⟩ ?hw ?hc
  case hw => w_witness2
  case hc =>
    intro w s₀ s₁ mg mb G Y fa o pm cd doc dV kV ho hd hcd hD hmg hg args vals as hpre hlay hrd hwl hlo
    have KX := kIn_of Y
    refine Ground.open G ?_
    intro T B D TE TW
    clear hmg
    wrow_args hpre hlay hrd hwl hlo
    all_goals (
      first | refine callC_kw (enter_call ?_) | refine enter_call ?_ | refine callC_kw (enter_callW ?_) | refine enter_callW ?_ | w_how
      w_top on
      try refine codeAny_mono ?_ (fun _ _ g => GoodW.toG g))
    have e1 := Dflts.none hD rfl
    have e2 := Dflts.noKw hD
    subst e1 e2
    refine Mine.enter_law (Mine.base w) KX T ho hd hcd rfl rfl rfl rfl rfl rfl rfl rfl (fun _ => rfl) (by assumption) (by assumption) (by (first | lia | omega)) fun h' tk k => ?_
    refine ⟨.inl ⟨.bool true, .bool true, [], rfl, fun _ => rfl, .bool true, ?_, fun _ => ⟨List.nodup_nil, fun _ h => by cases h⟩⟩, k, rfl, hg⟩
    exact Mine.post_true _ _ _
