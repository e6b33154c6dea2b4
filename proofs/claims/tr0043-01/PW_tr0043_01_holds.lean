import PyProof.Rows.All
import Wide.All
import OpenK.AllK
import Wide.FinOn
import PySem.Challenge.RW_tr0043_01
open PySem PySem.W PyProof.Rows
set_option Elab.async false
set_option compiler.extract_closed false
set_option maxRecDepth 100000
set_option maxHeartbeats 8000000


namespace Mine
noncomputable def hkBody : Stmt → List Stmt
  | .FunctionDef _ _ b _ _ _ _ _ _ _ => b
  | _ => []
noncomputable def hkArgs : Stmt → Arguments
  | .FunctionDef _ a _ _ _ _ _ _ _ _ => a
  | _ => ⟨[], [], none, [], [], none, []⟩
noncomputable def hkScope : Stmt → Scope
  | .FunctionDef _ _ _ _ _ _ s _ _ _ => s
  | _ => { kind := .function, names := [], isGenerator := false, isCoroutine := false, more := [] }
noncomputable def hkIn : Stmt → List Stmt
  | .ClassDef _ _ _ b _ _ _ _ _ _ _ => b
  | _ => []
noncomputable def hkSt (i : Nat) : Stmt := PySem.Challenge.pw_tr0043_01.main.body.getD i (.Pass ⟨0, 0, 0, 0⟩)
noncomputable def hkCs (i j : Nat) : Stmt := (hkIn (hkSt i)).getD j (.Pass ⟨0, 0, 0, 0⟩)
/-- the written part of the heap behind the module's run: the objects that the law can come to -/
noncomputable def wPart : Params → Frag := by
  refine (?f0 : (?a0 = hkArgs (hkSt 4)) → Params → Frag) ?h0
  case h0 => (conv => rhs; whnf); try exact rfl
  intro _
  refine (?f1 : (?b0 = hkBody (hkSt 4)) → Params → Frag) ?h1
  case h1 => (conv => rhs; whnf); try exact rfl
  intro _
  refine (?f2 : (?s0 = hkScope (hkSt 4)) → Params → Frag) ?h2
  case h2 => (conv => rhs; whnf); try exact rfl
  intro _
  refine (?f3 : (?a1 = hkArgs (hkSt 5)) → Params → Frag) ?h3
  case h3 => (conv => rhs; whnf); try exact rfl
  intro _
  refine (?f4 : (?b1 = hkBody (hkSt 5)) → Params → Frag) ?h4
  case h4 => (conv => rhs; whnf); try exact rfl
  intro _
  refine (?f5 : (?s1 = hkScope (hkSt 5)) → Params → Frag) ?h5
  case h5 => (conv => rhs; whnf); try exact rfl
  intro _
  refine (?f6 : (?a2 = hkArgs (hkCs 7 0)) → Params → Frag) ?h6
  case h6 => (conv => rhs; whnf); try exact rfl
  intro _
  refine (?f7 : (?b2 = hkBody (hkCs 7 0)) → Params → Frag) ?h7
  case h7 => (conv => rhs; whnf); try exact rfl
  intro _
  refine (?f8 : (?s2 = hkScope (hkCs 7 0)) → Params → Frag) ?h8
  case h8 => (conv => rhs; whnf); try exact rfl
  intro _
  refine (?f9 : (?a3 = hkArgs (hkCs 7 1)) → Params → Frag) ?h9
  case h9 => (conv => rhs; whnf); try exact rfl
  intro _
  refine (?f10 : (?b3 = hkBody (hkCs 7 1)) → Params → Frag) ?h10
  case h10 => (conv => rhs; whnf); try exact rfl
  intro _
  refine (?f11 : (?s3 = hkScope (hkCs 7 1)) → Params → Frag) ?h11
  case h11 => (conv => rhs; whnf); try exact rfl
  intro _
  refine (?f12 : (?a4 = hkArgs (hkCs 7 2)) → Params → Frag) ?h12
  case h12 => (conv => rhs; whnf); try exact rfl
  intro _
  refine (?f13 : (?b4 = hkBody (hkCs 7 2)) → Params → Frag) ?h13
  case h13 => (conv => rhs; whnf); try exact rfl
  intro _
  refine (?f14 : (?s4 = hkScope (hkCs 7 2)) → Params → Frag) ?h14
  case h14 => (conv => rhs; whnf); try exact rfl
  intro _
  refine (?f15 : (?a5 = hkArgs (hkCs 7 3)) → Params → Frag) ?h15
  case h15 => (conv => rhs; whnf); try exact rfl
  intro _
  refine (?f16 : (?b5 = hkBody (hkCs 7 3)) → Params → Frag) ?h16
  case h16 => (conv => rhs; whnf); try exact rfl
  intro _
  refine (?f17 : (?s5 = hkScope (hkCs 7 3)) → Params → Frag) ?h17
  case h17 => (conv => rhs; whnf); try exact rfl
  intro _
  refine (?f18 : (?a6 = hkArgs (hkSt 58)) → Params → Frag) ?h18
  case h18 => (conv => rhs; whnf); try exact rfl
  intro _
  refine (?f19 : (?b6 = hkBody (hkSt 58)) → Params → Frag) ?h19
  case h19 => (conv => rhs; whnf); try exact rfl
  intro _
  refine (?f20 : (?s6 = hkScope (hkSt 58)) → Params → Frag) ?h20
  case h20 => (conv => rhs; whnf); try exact rfl
  intro _
  refine (?f21 : (?a7 = hkArgs (hkSt 59)) → Params → Frag) ?h21
  case h21 => (conv => rhs; whnf); try exact rfl
  intro _
  refine (?f22 : (?b7 = hkBody (hkSt 59)) → Params → Frag) ?h22
  case h22 => (conv => rhs; whnf); try exact rfl
  intro _
  refine (?f23 : (?s7 = hkScope (hkSt 59)) → Params → Frag) ?h23
  case h23 => (conv => rhs; whnf); try exact rfl
  intro _
  refine (?f24 : (?a8 = hkArgs (hkSt 60)) → Params → Frag) ?h24
  case h24 => (conv => rhs; whnf); try exact rfl
  intro _
  refine (?f25 : (?b8 = hkBody (hkSt 60)) → Params → Frag) ?h25
  case h25 => (conv => rhs; whnf); try exact rfl
  intro _
  refine (?f26 : (?s8 = hkScope (hkSt 60)) → Params → Frag) ?h26
  case h26 => (conv => rhs; whnf); try exact rfl
  intro _
  refine (?f27 : (?a9 = hkArgs (hkSt 61)) → Params → Frag) ?h27
  case h27 => (conv => rhs; whnf); try exact rfl
  intro _
  refine (?f28 : (?b9 = hkBody (hkSt 61)) → Params → Frag) ?h28
  case h28 => (conv => rhs; whnf); try exact rfl
  intro _
  refine (?f29 : (?s9 = hkScope (hkSt 61)) → Params → Frag) ?h29
  case h29 => (conv => rhs; whnf); try exact rfl
  intro _
  refine (?f30 : (?a10 = hkArgs (hkSt 62)) → Params → Frag) ?h30
  case h30 => (conv => rhs; whnf); try exact rfl
  intro _
  refine (?f31 : (?b10 = hkBody (hkSt 62)) → Params → Frag) ?h31
  case h31 => (conv => rhs; whnf); try exact rfl
  intro _
  refine (?f32 : (?s10 = hkScope (hkSt 62)) → Params → Frag) ?h32
  case h32 => (conv => rhs; whnf); try exact rfl
  intro _
  refine (?f33 : (?a11 = hkArgs (hkSt 63)) → Params → Frag) ?h33
  case h33 => (conv => rhs; whnf); try exact rfl
  intro _
  refine (?f34 : (?b11 = hkBody (hkSt 63)) → Params → Frag) ?h34
  case h34 => (conv => rhs; whnf); try exact rfl
  intro _
  refine (?f35 : (?s11 = hkScope (hkSt 63)) → Params → Frag) ?h35
  case h35 => (conv => rhs; whnf); try exact rfl
  intro _
  exact fun P =>
    (nat_lit 2,
      { cls := PySem.Value.none,
        data :=
          PySem.Data.dict
            #[{ hash := PySem.PyData.keyHash P (PySem.Str.ofString "type.__subclasses__.Exception.0"),
                key := PySem.Value.str (PySem.Str.ofString "type.__subclasses__.Exception.0") 205,
                val := PySem.Value.int 24 0 },
              { hash := PySem.PyData.keyHash P (PySem.Str.ofString "type.__subclasses__.Exception.n"),
                key := PySem.Value.str (PySem.Str.ofString "type.__subclasses__.Exception.n") 206,
                val := PySem.Value.int 1 0 }]
            2 }) ::
    (nat_lit 3,
      { cls := PySem.Value.type "dict",
        data :=
          PySem.Data.dict
            #[{ hash := PySem.PyData.keyHash P (PySem.Str.ofString "__name__"),
                key := PySem.Value.str (PySem.Str.ofString "__name__") 165,
                val := PySem.Value.str (PySem.Str.ofString "law_tr0043_01") 518 },
              { hash := PySem.PyData.keyHash P (PySem.Str.ofString "__doc__"),
                key := PySem.Value.str (PySem.Str.ofString "__doc__") 166, val := PySem.Value.none },
              { hash := PySem.PyData.keyHash P (PySem.Str.ofString "__package__"),
                key := PySem.Value.str (PySem.Str.ofString "__package__") 167, val := PySem.Value.none },
              { hash := PySem.PyData.keyHash P (PySem.Str.ofString "__loader__"),
                key := PySem.Value.str (PySem.Str.ofString "__loader__") 168,
                val := PySem.Value.builtin "__main__.__loader__#opaque" },
              { hash := PySem.PyData.keyHash P (PySem.Str.ofString "__spec__"),
                key := PySem.Value.str (PySem.Str.ofString "__spec__") 169, val := PySem.Value.none },
              { hash := PySem.PyData.keyHash P (PySem.Str.ofString "__annotations__"),
                key := PySem.Value.str (PySem.Str.ofString "__annotations__") 170, val := PySem.Value.ref 6 },
              { hash := PySem.PyData.keyHash P (PySem.Str.ofString "__builtins__"),
                key := PySem.Value.str (PySem.Str.ofString "__builtins__") 171, val := PySem.Value.ref 4 },
              { hash := PySem.PyData.keyHash P (PySem.Str.ofString "__file__"),
                key := PySem.Value.str (PySem.Str.ofString "__file__") 173,
                val := PySem.Value.str (PySem.Str.ofString "/claim/cut.py") 172 },
              { hash := PySem.PyData.keyHash P (PySem.Str.ofString "__cached__"),
                key := PySem.Value.str (PySem.Str.ofString "__cached__") 174, val := PySem.Value.none },
              { hash := PySem.PyData.keyHash P (PySem.Str.ofString "Error"),
                key := PySem.Value.str (PySem.Str.ofString "Error") 208, val := PySem.Value.ref 24 },
              { hash := PySem.PyData.keyHash P (PySem.Str.ofString "error_reply"),
                key := PySem.Value.str (PySem.Str.ofString "error_reply") 224, val := PySem.Value.ref 37 },
              { hash := PySem.PyData.keyHash P (PySem.Str.ofString "error_proto"),
                key := PySem.Value.str (PySem.Str.ofString "error_proto") 240, val := PySem.Value.ref 49 },
              { hash := PySem.PyData.keyHash P (PySem.Str.ofString "parse229"),
                key := PySem.Value.str (PySem.Str.ofString "parse229") 253, val := PySem.Value.ref 58 },
              { hash := PySem.PyData.keyHash P (PySem.Str.ofString "parse257"),
                key := PySem.Value.str (PySem.Str.ofString "parse257") 264, val := PySem.Value.ref 65 },
              { hash := PySem.PyData.keyHash P (PySem.Str.ofString "_netrclex"),
                key := PySem.Value.str (PySem.Str.ofString "_netrclex") 324, val := PySem.Value.ref 103 },
              { hash := PySem.PyData.keyHash P (PySem.Str.ofString "LPAR"),
                key := PySem.Value.str (PySem.Str.ofString "LPAR") 326, val := PySem.Value.int 7 325 },
              { hash := PySem.PyData.keyHash P (PySem.Str.ofString "RPAR"),
                key := PySem.Value.str (PySem.Str.ofString "RPAR") 328, val := PySem.Value.int 8 327 },
              { hash := PySem.PyData.keyHash P (PySem.Str.ofString "LSQB"),
                key := PySem.Value.str (PySem.Str.ofString "LSQB") 330, val := PySem.Value.int 9 329 },
              { hash := PySem.PyData.keyHash P (PySem.Str.ofString "RSQB"),
                key := PySem.Value.str (PySem.Str.ofString "RSQB") 332, val := PySem.Value.int 10 331 },
              { hash := PySem.PyData.keyHash P (PySem.Str.ofString "COLON"),
                key := PySem.Value.str (PySem.Str.ofString "COLON") 334, val := PySem.Value.int 11 333 },
              { hash := PySem.PyData.keyHash P (PySem.Str.ofString "COMMA"),
                key := PySem.Value.str (PySem.Str.ofString "COMMA") 336, val := PySem.Value.int 12 335 },
              { hash := PySem.PyData.keyHash P (PySem.Str.ofString "SEMI"),
                key := PySem.Value.str (PySem.Str.ofString "SEMI") 338, val := PySem.Value.int 13 337 },
              { hash := PySem.PyData.keyHash P (PySem.Str.ofString "PLUS"),
                key := PySem.Value.str (PySem.Str.ofString "PLUS") 340, val := PySem.Value.int 14 339 },
              { hash := PySem.PyData.keyHash P (PySem.Str.ofString "MINUS"),
                key := PySem.Value.str (PySem.Str.ofString "MINUS") 342, val := PySem.Value.int 15 341 },
              { hash := PySem.PyData.keyHash P (PySem.Str.ofString "STAR"),
                key := PySem.Value.str (PySem.Str.ofString "STAR") 344, val := PySem.Value.int 16 343 },
              { hash := PySem.PyData.keyHash P (PySem.Str.ofString "SLASH"),
                key := PySem.Value.str (PySem.Str.ofString "SLASH") 346, val := PySem.Value.int 17 345 },
              { hash := PySem.PyData.keyHash P (PySem.Str.ofString "VBAR"),
                key := PySem.Value.str (PySem.Str.ofString "VBAR") 348, val := PySem.Value.int 18 347 },
              { hash := PySem.PyData.keyHash P (PySem.Str.ofString "AMPER"),
                key := PySem.Value.str (PySem.Str.ofString "AMPER") 350, val := PySem.Value.int 19 349 },
              { hash := PySem.PyData.keyHash P (PySem.Str.ofString "LESS"),
                key := PySem.Value.str (PySem.Str.ofString "LESS") 352, val := PySem.Value.int 20 351 },
              { hash := PySem.PyData.keyHash P (PySem.Str.ofString "GREATER"),
                key := PySem.Value.str (PySem.Str.ofString "GREATER") 354, val := PySem.Value.int 21 353 },
              { hash := PySem.PyData.keyHash P (PySem.Str.ofString "EQUAL"),
                key := PySem.Value.str (PySem.Str.ofString "EQUAL") 356, val := PySem.Value.int 22 355 },
              { hash := PySem.PyData.keyHash P (PySem.Str.ofString "DOT"),
                key := PySem.Value.str (PySem.Str.ofString "DOT") 358, val := PySem.Value.int 23 357 },
              { hash := PySem.PyData.keyHash P (PySem.Str.ofString "PERCENT"),
                key := PySem.Value.str (PySem.Str.ofString "PERCENT") 360, val := PySem.Value.int 24 359 },
              { hash := PySem.PyData.keyHash P (PySem.Str.ofString "LBRACE"),
                key := PySem.Value.str (PySem.Str.ofString "LBRACE") 362, val := PySem.Value.int 25 361 },
              { hash := PySem.PyData.keyHash P (PySem.Str.ofString "RBRACE"),
                key := PySem.Value.str (PySem.Str.ofString "RBRACE") 364, val := PySem.Value.int 26 363 },
              { hash := PySem.PyData.keyHash P (PySem.Str.ofString "EQEQUAL"),
                key := PySem.Value.str (PySem.Str.ofString "EQEQUAL") 366, val := PySem.Value.int 27 365 },
              { hash := PySem.PyData.keyHash P (PySem.Str.ofString "NOTEQUAL"),
                key := PySem.Value.str (PySem.Str.ofString "NOTEQUAL") 368, val := PySem.Value.int 28 367 },
              { hash := PySem.PyData.keyHash P (PySem.Str.ofString "LESSEQUAL"),
                key := PySem.Value.str (PySem.Str.ofString "LESSEQUAL") 370, val := PySem.Value.int 29 369 },
              { hash := PySem.PyData.keyHash P (PySem.Str.ofString "GREATEREQUAL"),
                key := PySem.Value.str (PySem.Str.ofString "GREATEREQUAL") 372, val := PySem.Value.int 30 371 },
              { hash := PySem.PyData.keyHash P (PySem.Str.ofString "TILDE"),
                key := PySem.Value.str (PySem.Str.ofString "TILDE") 374, val := PySem.Value.int 31 373 },
              { hash := PySem.PyData.keyHash P (PySem.Str.ofString "CIRCUMFLEX"),
                key := PySem.Value.str (PySem.Str.ofString "CIRCUMFLEX") 376, val := PySem.Value.int 32 375 },
              { hash := PySem.PyData.keyHash P (PySem.Str.ofString "LEFTSHIFT"),
                key := PySem.Value.str (PySem.Str.ofString "LEFTSHIFT") 378, val := PySem.Value.int 33 377 },
              { hash := PySem.PyData.keyHash P (PySem.Str.ofString "RIGHTSHIFT"),
                key := PySem.Value.str (PySem.Str.ofString "RIGHTSHIFT") 380, val := PySem.Value.int 34 379 },
              { hash := PySem.PyData.keyHash P (PySem.Str.ofString "DOUBLESTAR"),
                key := PySem.Value.str (PySem.Str.ofString "DOUBLESTAR") 382, val := PySem.Value.int 35 381 },
              { hash := PySem.PyData.keyHash P (PySem.Str.ofString "PLUSEQUAL"),
                key := PySem.Value.str (PySem.Str.ofString "PLUSEQUAL") 384, val := PySem.Value.int 36 383 },
              { hash := PySem.PyData.keyHash P (PySem.Str.ofString "MINEQUAL"),
                key := PySem.Value.str (PySem.Str.ofString "MINEQUAL") 386, val := PySem.Value.int 37 385 },
              { hash := PySem.PyData.keyHash P (PySem.Str.ofString "STAREQUAL"),
                key := PySem.Value.str (PySem.Str.ofString "STAREQUAL") 388, val := PySem.Value.int 38 387 },
              { hash := PySem.PyData.keyHash P (PySem.Str.ofString "SLASHEQUAL"),
                key := PySem.Value.str (PySem.Str.ofString "SLASHEQUAL") 390, val := PySem.Value.int 39 389 },
              { hash := PySem.PyData.keyHash P (PySem.Str.ofString "PERCENTEQUAL"),
                key := PySem.Value.str (PySem.Str.ofString "PERCENTEQUAL") 392, val := PySem.Value.int 40 391 },
              { hash := PySem.PyData.keyHash P (PySem.Str.ofString "AMPEREQUAL"),
                key := PySem.Value.str (PySem.Str.ofString "AMPEREQUAL") 394, val := PySem.Value.int 41 393 },
              { hash := PySem.PyData.keyHash P (PySem.Str.ofString "VBAREQUAL"),
                key := PySem.Value.str (PySem.Str.ofString "VBAREQUAL") 396, val := PySem.Value.int 42 395 },
              { hash := PySem.PyData.keyHash P (PySem.Str.ofString "CIRCUMFLEXEQUAL"),
                key := PySem.Value.str (PySem.Str.ofString "CIRCUMFLEXEQUAL") 398, val := PySem.Value.int 43 397 },
              { hash := PySem.PyData.keyHash P (PySem.Str.ofString "LEFTSHIFTEQUAL"),
                key := PySem.Value.str (PySem.Str.ofString "LEFTSHIFTEQUAL") 400, val := PySem.Value.int 44 399 },
              { hash := PySem.PyData.keyHash P (PySem.Str.ofString "RIGHTSHIFTEQUAL"),
                key := PySem.Value.str (PySem.Str.ofString "RIGHTSHIFTEQUAL") 402, val := PySem.Value.int 45 401 },
              { hash := PySem.PyData.keyHash P (PySem.Str.ofString "DOUBLESTAREQUAL"),
                key := PySem.Value.str (PySem.Str.ofString "DOUBLESTAREQUAL") 404, val := PySem.Value.int 46 403 },
              { hash := PySem.PyData.keyHash P (PySem.Str.ofString "DOUBLESLASH"),
                key := PySem.Value.str (PySem.Str.ofString "DOUBLESLASH") 406, val := PySem.Value.int 47 405 },
              { hash := PySem.PyData.keyHash P (PySem.Str.ofString "DOUBLESLASHEQUAL"),
                key := PySem.Value.str (PySem.Str.ofString "DOUBLESLASHEQUAL") 408, val := PySem.Value.int 48 407 },
              { hash := PySem.PyData.keyHash P (PySem.Str.ofString "AT"),
                key := PySem.Value.str (PySem.Str.ofString "AT") 410, val := PySem.Value.int 49 409 },
              { hash := PySem.PyData.keyHash P (PySem.Str.ofString "ATEQUAL"),
                key := PySem.Value.str (PySem.Str.ofString "ATEQUAL") 412, val := PySem.Value.int 50 411 },
              { hash := PySem.PyData.keyHash P (PySem.Str.ofString "RARROW"),
                key := PySem.Value.str (PySem.Str.ofString "RARROW") 414, val := PySem.Value.int 51 413 },
              { hash := PySem.PyData.keyHash P (PySem.Str.ofString "ELLIPSIS"),
                key := PySem.Value.str (PySem.Str.ofString "ELLIPSIS") 416, val := PySem.Value.int 52 415 },
              { hash := PySem.PyData.keyHash P (PySem.Str.ofString "COLONEQUAL"),
                key := PySem.Value.str (PySem.Str.ofString "COLONEQUAL") 418, val := PySem.Value.int 53 417 },
              { hash := PySem.PyData.keyHash P (PySem.Str.ofString "EXCLAMATION"),
                key := PySem.Value.str (PySem.Str.ofString "EXCLAMATION") 420, val := PySem.Value.int 54 419 },
              { hash := PySem.PyData.keyHash P (PySem.Str.ofString "EXACT_TOKEN_TYPES"),
                key := PySem.Value.str (PySem.Str.ofString "EXACT_TOKEN_TYPES") 517, val := PySem.Value.ref 108 },
              { hash := PySem.PyData.keyHash P (PySem.Str.ofString "_law_lexer"),
                key := PySem.Value.str (PySem.Str.ofString "_law_lexer") 530, val := PySem.Value.ref 117 },
              { hash := PySem.PyData.keyHash P (PySem.Str.ofString "_law_word"),
                key := PySem.Value.str (PySem.Str.ofString "_law_word") 536, val := PySem.Value.ref 122 },
              { hash := PySem.PyData.keyHash P (PySem.Str.ofString "_law_capped"),
                key := PySem.Value.str (PySem.Str.ofString "_law_capped") 543, val := PySem.Value.ref 129 },
              { hash := PySem.PyData.keyHash P (PySem.Str.ofString "_law_led"),
                key := PySem.Value.str (PySem.Str.ofString "_law_led") 553, val := PySem.Value.ref 136 },
              { hash := PySem.PyData.keyHash P (PySem.Str.ofString "_law_back"),
                key := PySem.Value.str (PySem.Str.ofString "_law_back") 565, val := PySem.Value.ref 143 },
              { hash := PySem.PyData.keyHash P (PySem.Str.ofString "law"),
                key := PySem.Value.str (PySem.Str.ofString "law") 571, val := PySem.Value.ref 148 }]
            70 }) ::
    (nat_lit 6, { cls := PySem.Value.type "dict", data := PySem.Data.dict #[] }) ::
    (nat_lit 15, { cls := PySem.Value.type "tuple", data := PySem.Data.seq #[PySem.Value.type "Exception"] }) ::
    (nat_lit 22, { cls := PySem.Value.type "tuple", data := PySem.Data.seq #[] }) ::
    (nat_lit 23,
      { cls := PySem.Value.type "dict",
        data :=
          PySem.Data.dict
            #[{ hash := PySem.PyData.keyHash P (PySem.Str.ofString "__module__"),
                key := PySem.Value.str (PySem.Str.ofString "__module__") 196,
                val := PySem.Value.str (PySem.Str.ofString "cpy313.ftplib") 187 },
              { hash := PySem.PyData.keyHash P (PySem.Str.ofString "__firstlineno__"),
                key := PySem.Value.str (PySem.Str.ofString "__firstlineno__") 200, val := PySem.Value.int 2 199 },
              { hash := PySem.PyData.keyHash P (PySem.Str.ofString "__static_attributes__"),
                key := PySem.Value.str (PySem.Str.ofString "__static_attributes__") 201, val := PySem.Value.ref 22 },
              { hash := PySem.PyData.keyHash P (PySem.Str.ofString "__weakref__"),
                key := PySem.Value.str (PySem.Str.ofString "__weakref__") 203, val := PySem.Value.ref 25 },
              { hash := PySem.PyData.keyHash P (PySem.Str.ofString "__doc__"),
                key := PySem.Value.str (PySem.Str.ofString "__doc__") 204, val := PySem.Value.none }]
            3 }) ::
    (nat_lit 24,
      { cls := PySem.Value.type "type",
        data :=
          PySem.Data.cls
            { name := PySem.Str.ofString "Error", bases := [PySem.Value.type "Exception"],
              mro :=
                [PySem.Value.ref 24, PySem.Value.type "Exception", PySem.Value.type "BaseException",
                  PySem.Value.type "object"],
              ns := 23, qualname := PySem.Str.ofString "Error",
              subclasses := [PySem.Value.ref 37, PySem.Value.ref 49] },
        slots :=
          #[Option.some (PySem.Value.ref 15), Option.none,
            Option.some (PySem.Value.str (PySem.Str.ofString "Error") 189),
            Option.some (PySem.Value.str (PySem.Str.ofString "Error") 197),
            Option.some (PySem.Value.builtin "Exception.__new__"), Option.some (PySem.Value.bool Bool.true)] }) ::
    (nat_lit 25,
      { cls := PySem.Value.type "getset_descriptor",
        data :=
          PySem.Data.fields
            #[PySem.Value.str (PySem.Str.ofString "__weakref__") 202, PySem.Value.ref 24,
              PySem.Value.builtin "ExceptionGroup.__weakref__", PySem.Value.none] }) ::
    (nat_lit 28, { cls := PySem.Value.type "tuple", data := PySem.Data.seq #[PySem.Value.ref 24] }) ::
    (nat_lit 35, { cls := PySem.Value.type "tuple", data := PySem.Data.seq #[] }) ::
    (nat_lit 36,
      { cls := PySem.Value.type "dict",
        data :=
          PySem.Data.dict
            #[{ hash := PySem.PyData.keyHash P (PySem.Str.ofString "__module__"),
                key := PySem.Value.str (PySem.Str.ofString "__module__") 216,
                val := PySem.Value.str (PySem.Str.ofString "cpy313.ftplib") 187 },
              { hash := PySem.PyData.keyHash P (PySem.Str.ofString "__firstlineno__"),
                key := PySem.Value.str (PySem.Str.ofString "__firstlineno__") 220, val := PySem.Value.int 4 219 },
              { hash := PySem.PyData.keyHash P (PySem.Str.ofString "__static_attributes__"),
                key := PySem.Value.str (PySem.Str.ofString "__static_attributes__") 221, val := PySem.Value.ref 35 },
              { hash := PySem.PyData.keyHash P (PySem.Str.ofString "__doc__"),
                key := PySem.Value.str (PySem.Str.ofString "__doc__") 222, val := PySem.Value.none }]
            2 }) ::
    (nat_lit 37,
      { cls := PySem.Value.type "type",
        data :=
          PySem.Data.cls
            { name := PySem.Str.ofString "error_reply", bases := [PySem.Value.ref 24],
              mro :=
                [PySem.Value.ref 37, PySem.Value.ref 24, PySem.Value.type "Exception", PySem.Value.type "BaseException",
                  PySem.Value.type "object"],
              ns := 36, qualname := PySem.Str.ofString "error_reply" },
        slots :=
          #[Option.some (PySem.Value.ref 28), Option.none,
            Option.some (PySem.Value.str (PySem.Str.ofString "error_reply") 209),
            Option.some (PySem.Value.str (PySem.Str.ofString "error_reply") 217),
            Option.some (PySem.Value.builtin "Exception.__new__"), Option.some (PySem.Value.bool Bool.true)] }) ::
    (nat_lit 40, { cls := PySem.Value.type "tuple", data := PySem.Data.seq #[PySem.Value.ref 24] }) ::
    (nat_lit 47, { cls := PySem.Value.type "tuple", data := PySem.Data.seq #[] }) ::
    (nat_lit 48,
      { cls := PySem.Value.type "dict",
        data :=
          PySem.Data.dict
            #[{ hash := PySem.PyData.keyHash P (PySem.Str.ofString "__module__"),
                key := PySem.Value.str (PySem.Str.ofString "__module__") 232,
                val := PySem.Value.str (PySem.Str.ofString "cpy313.ftplib") 187 },
              { hash := PySem.PyData.keyHash P (PySem.Str.ofString "__firstlineno__"),
                key := PySem.Value.str (PySem.Str.ofString "__firstlineno__") 236, val := PySem.Value.int 6 235 },
              { hash := PySem.PyData.keyHash P (PySem.Str.ofString "__static_attributes__"),
                key := PySem.Value.str (PySem.Str.ofString "__static_attributes__") 237, val := PySem.Value.ref 47 },
              { hash := PySem.PyData.keyHash P (PySem.Str.ofString "__doc__"),
                key := PySem.Value.str (PySem.Str.ofString "__doc__") 238, val := PySem.Value.none }]
            2 }) ::
    (nat_lit 49,
      { cls := PySem.Value.type "type",
        data :=
          PySem.Data.cls
            { name := PySem.Str.ofString "error_proto", bases := [PySem.Value.ref 24],
              mro :=
                [PySem.Value.ref 49, PySem.Value.ref 24, PySem.Value.type "Exception", PySem.Value.type "BaseException",
                  PySem.Value.type "object"],
              ns := 48, qualname := PySem.Str.ofString "error_proto" },
        slots :=
          #[Option.some (PySem.Value.ref 40), Option.none,
            Option.some (PySem.Value.str (PySem.Str.ofString "error_proto") 225),
            Option.some (PySem.Value.str (PySem.Str.ofString "error_proto") 233),
            Option.some (PySem.Value.builtin "Exception.__new__"), Option.some (PySem.Value.bool Bool.true)] }) ::
    (nat_lit 52, { cls := PySem.Value.type "tuple", data := PySem.Data.seq #[] }) ::
    (nat_lit 54,
      { cls := PySem.Value.type "tuple",
        data :=
          PySem.Data.seq
            #[PySem.Value.str (PySem.Str.ofString "resp") 244, PySem.Value.str (PySem.Str.ofString "peer") 245,
              PySem.Value.str (PySem.Str.ofString "left") 246, PySem.Value.str (PySem.Str.ofString "right") 247,
              PySem.Value.str (PySem.Str.ofString "parts") 248, PySem.Value.str (PySem.Str.ofString "host") 249,
              PySem.Value.str (PySem.Str.ofString "port") 250] }) ::
    (nat_lit 55, { cls := PySem.Value.type "tuple", data := PySem.Data.seq #[] }) ::
    (nat_lit 57,
      { cls := PySem.Value.type "code",
        data :=
          PySem.Data.fields
            #[PySem.Value.str (PySem.Str.ofString "parse229") 241, PySem.Value.str (PySem.Str.ofString "parse229") 242,
              PySem.Value.str (PySem.Str.ofString "/claim/cut.py") 243, PySem.Value.int 8 0, PySem.Value.int 2 0,
              PySem.Value.int 0 0, PySem.Value.int 0 0, PySem.Value.int 3 0, PySem.Value.ref 52,
              PySem.Value.bool Bool.true, PySem.Value.int 181 0, PySem.Value.ref 53, PySem.Value.none,
              PySem.Value.ref 54, PySem.Value.ref 55, PySem.Value.ref 56, PySem.Value.int 251 0, PySem.Value.int 8 0,
              PySem.Value.str (PySem.Str.ofString "/claim/cut.py") 252] }) ::
    (nat_lit 58,
      { cls := PySem.Value.type "function",
        data :=
          PySem.Data.func
            { name := PySem.Str.ofString "parse229", qualname := PySem.Str.ofString "parse229",
              params := ?a0, body := PySem.FuncBody.stmts ?b0, scope := ?s0,
              globals := 3, closure := [], defaults := PySem.Value.none, kwdefaults := PySem.Value.none,
              pyModule := PySem.Value.str (PySem.Str.ofString "cpy313.ftplib") 187, code := PySem.Value.ref 57 } }) ::
    (nat_lit 59, { cls := PySem.Value.type "tuple", data := PySem.Data.seq #[] }) ::
    (nat_lit 61,
      { cls := PySem.Value.type "tuple",
        data :=
          PySem.Data.seq
            #[PySem.Value.str (PySem.Str.ofString "resp") 257, PySem.Value.str (PySem.Str.ofString "dirname") 258,
              PySem.Value.str (PySem.Str.ofString "i") 259, PySem.Value.str (PySem.Str.ofString "n") 260,
              PySem.Value.str (PySem.Str.ofString "c") 261] }) ::
    (nat_lit 62, { cls := PySem.Value.type "tuple", data := PySem.Data.seq #[] }) ::
    (nat_lit 64,
      { cls := PySem.Value.type "code",
        data :=
          PySem.Data.fields
            #[PySem.Value.str (PySem.Str.ofString "parse257") 254, PySem.Value.str (PySem.Str.ofString "parse257") 255,
              PySem.Value.str (PySem.Str.ofString "/claim/cut.py") 256, PySem.Value.int 25 0, PySem.Value.int 1 0,
              PySem.Value.int 0 0, PySem.Value.int 0 0, PySem.Value.int 3 0, PySem.Value.ref 59,
              PySem.Value.bool Bool.true, PySem.Value.int 181 0, PySem.Value.ref 60, PySem.Value.none,
              PySem.Value.ref 61, PySem.Value.ref 62, PySem.Value.ref 63, PySem.Value.int 262 0, PySem.Value.int 25 0,
              PySem.Value.str (PySem.Str.ofString "/claim/cut.py") 263] }) ::
    (nat_lit 65,
      { cls := PySem.Value.type "function",
        data :=
          PySem.Data.func
            { name := PySem.Str.ofString "parse257", qualname := PySem.Str.ofString "parse257",
              params := ?a1, body := PySem.FuncBody.stmts ?b1, scope := ?s1,
              globals := 3, closure := [], defaults := PySem.Value.none, kwdefaults := PySem.Value.none,
              pyModule := PySem.Value.str (PySem.Str.ofString "cpy313.ftplib") 187, code := PySem.Value.ref 64 } }) ::
    (nat_lit 73, { cls := PySem.Value.type "tuple", data := PySem.Data.seq #[] }) ::
    (nat_lit 75,
      { cls := PySem.Value.type "tuple",
        data :=
          PySem.Data.seq
            #[PySem.Value.str (PySem.Str.ofString "self") 282, PySem.Value.str (PySem.Str.ofString "fp") 283] }) ::
    (nat_lit 76, { cls := PySem.Value.type "tuple", data := PySem.Data.seq #[] }) ::
    (nat_lit 78,
      { cls := PySem.Value.type "code",
        data :=
          PySem.Data.fields
            #[PySem.Value.str (PySem.Str.ofString "__init__") 279,
              PySem.Value.str (PySem.Str.ofString "_netrclex.__init__") 280,
              PySem.Value.str (PySem.Str.ofString "/claim/cut.py") 281, PySem.Value.int 45 0, PySem.Value.int 2 0,
              PySem.Value.int 0 0, PySem.Value.int 0 0, PySem.Value.int 3 0, PySem.Value.ref 73,
              PySem.Value.bool Bool.true, PySem.Value.int 181 0, PySem.Value.ref 74, PySem.Value.none,
              PySem.Value.ref 75, PySem.Value.ref 76, PySem.Value.ref 77, PySem.Value.int 284 0, PySem.Value.int 45 0,
              PySem.Value.str (PySem.Str.ofString "/claim/cut.py") 285] }) ::
    (nat_lit 79,
      { cls := PySem.Value.type "function",
        data :=
          PySem.Data.func
            { name := PySem.Str.ofString "__init__", qualname := PySem.Str.ofString "_netrclex.__init__",
              params := ?a2, body := PySem.FuncBody.stmts ?b2, scope := ?s2,
              globals := 3, closure := [], defaults := PySem.Value.none, kwdefaults := PySem.Value.none,
              pyModule := PySem.Value.str (PySem.Str.ofString "cpy313.netrc") 265, code := PySem.Value.ref 78 } }) ::
    (nat_lit 80, { cls := PySem.Value.type "tuple", data := PySem.Data.seq #[] }) ::
    (nat_lit 82,
      { cls := PySem.Value.type "tuple",
        data :=
          PySem.Data.seq
            #[PySem.Value.str (PySem.Str.ofString "self") 290, PySem.Value.str (PySem.Str.ofString "ch") 291] }) ::
    (nat_lit 83, { cls := PySem.Value.type "tuple", data := PySem.Data.seq #[] }) ::
    (nat_lit 85,
      { cls := PySem.Value.type "code",
        data :=
          PySem.Data.fields
            #[PySem.Value.str (PySem.Str.ofString "_read_char") 287,
              PySem.Value.str (PySem.Str.ofString "_netrclex._read_char") 288,
              PySem.Value.str (PySem.Str.ofString "/claim/cut.py") 289, PySem.Value.int 51 0, PySem.Value.int 1 0,
              PySem.Value.int 0 0, PySem.Value.int 0 0, PySem.Value.int 3 0, PySem.Value.ref 80,
              PySem.Value.bool Bool.true, PySem.Value.int 181 0, PySem.Value.ref 81, PySem.Value.none,
              PySem.Value.ref 82, PySem.Value.ref 83, PySem.Value.ref 84, PySem.Value.int 292 0, PySem.Value.int 51 0,
              PySem.Value.str (PySem.Str.ofString "/claim/cut.py") 293] }) ::
    (nat_lit 86,
      { cls := PySem.Value.type "function",
        data :=
          PySem.Data.func
            { name := PySem.Str.ofString "_read_char", qualname := PySem.Str.ofString "_netrclex._read_char",
              params := ?a3, body := PySem.FuncBody.stmts ?b3, scope := ?s3,
              globals := 3, closure := [], defaults := PySem.Value.none, kwdefaults := PySem.Value.none,
              pyModule := PySem.Value.str (PySem.Str.ofString "cpy313.netrc") 265, code := PySem.Value.ref 85 } }) ::
    (nat_lit 87, { cls := PySem.Value.type "tuple", data := PySem.Data.seq #[] }) ::
    (nat_lit 89,
      { cls := PySem.Value.type "tuple",
        data :=
          PySem.Data.seq
            #[PySem.Value.str (PySem.Str.ofString "self") 298, PySem.Value.str (PySem.Str.ofString "token") 299,
              PySem.Value.str (PySem.Str.ofString "fiter") 300, PySem.Value.str (PySem.Str.ofString "ch") 301] }) ::
    (nat_lit 90, { cls := PySem.Value.type "tuple", data := PySem.Data.seq #[] }) ::
    (nat_lit 92,
      { cls := PySem.Value.type "code",
        data :=
          PySem.Data.fields
            #[PySem.Value.str (PySem.Str.ofString "get_token") 295,
              PySem.Value.str (PySem.Str.ofString "_netrclex.get_token") 296,
              PySem.Value.str (PySem.Str.ofString "/claim/cut.py") 297, PySem.Value.int 57 0, PySem.Value.int 1 0,
              PySem.Value.int 0 0, PySem.Value.int 0 0, PySem.Value.int 3 0, PySem.Value.ref 87,
              PySem.Value.bool Bool.true, PySem.Value.int 181 0, PySem.Value.ref 88, PySem.Value.none,
              PySem.Value.ref 89, PySem.Value.ref 90, PySem.Value.ref 91, PySem.Value.int 302 0, PySem.Value.int 57 0,
              PySem.Value.str (PySem.Str.ofString "/claim/cut.py") 303] }) ::
    (nat_lit 93,
      { cls := PySem.Value.type "function",
        data :=
          PySem.Data.func
            { name := PySem.Str.ofString "get_token", qualname := PySem.Str.ofString "_netrclex.get_token",
              params := ?a4, body := PySem.FuncBody.stmts ?b4, scope := ?s4,
              globals := 3, closure := [], defaults := PySem.Value.none, kwdefaults := PySem.Value.none,
              pyModule := PySem.Value.str (PySem.Str.ofString "cpy313.netrc") 265, code := PySem.Value.ref 92 } }) ::
    (nat_lit 94, { cls := PySem.Value.type "tuple", data := PySem.Data.seq #[] }) ::
    (nat_lit 96,
      { cls := PySem.Value.type "tuple",
        data :=
          PySem.Data.seq
            #[PySem.Value.str (PySem.Str.ofString "self") 308, PySem.Value.str (PySem.Str.ofString "token") 309] }) ::
    (nat_lit 97, { cls := PySem.Value.type "tuple", data := PySem.Data.seq #[] }) ::
    (nat_lit 99,
      { cls := PySem.Value.type "code",
        data :=
          PySem.Data.fields
            #[PySem.Value.str (PySem.Str.ofString "push_token") 305,
              PySem.Value.str (PySem.Str.ofString "_netrclex.push_token") 306,
              PySem.Value.str (PySem.Str.ofString "/claim/cut.py") 307, PySem.Value.int 84 0, PySem.Value.int 2 0,
              PySem.Value.int 0 0, PySem.Value.int 0 0, PySem.Value.int 3 0, PySem.Value.ref 94,
              PySem.Value.bool Bool.true, PySem.Value.int 181 0, PySem.Value.ref 95, PySem.Value.none,
              PySem.Value.ref 96, PySem.Value.ref 97, PySem.Value.ref 98, PySem.Value.int 310 0, PySem.Value.int 84 0,
              PySem.Value.str (PySem.Str.ofString "/claim/cut.py") 311] }) ::
    (nat_lit 100,
      { cls := PySem.Value.type "function",
        data :=
          PySem.Data.func
            { name := PySem.Str.ofString "push_token", qualname := PySem.Str.ofString "_netrclex.push_token",
              params := ?a5, body := PySem.FuncBody.stmts ?b5, scope := ?s5,
              globals := 3, closure := [], defaults := PySem.Value.none, kwdefaults := PySem.Value.none,
              pyModule := PySem.Value.str (PySem.Str.ofString "cpy313.netrc") 265, code := PySem.Value.ref 99 } }) ::
    (nat_lit 101,
      { cls := PySem.Value.type "tuple",
        data :=
          PySem.Data.seq
            #[PySem.Value.str (PySem.Str.ofString "instream") 313, PySem.Value.str (PySem.Str.ofString "lineno") 314,
              PySem.Value.str (PySem.Str.ofString "pushback") 315,
              PySem.Value.str (PySem.Str.ofString "whitespace") 316] }) ::
    (nat_lit 102,
      { cls := PySem.Value.type "dict",
        data :=
          PySem.Data.dict
            #[{ hash := PySem.PyData.keyHash P (PySem.Str.ofString "__module__"),
                key := PySem.Value.str (PySem.Str.ofString "__module__") 274,
                val := PySem.Value.str (PySem.Str.ofString "cpy313.netrc") 265 },
              { hash := PySem.PyData.keyHash P (PySem.Str.ofString "__firstlineno__"),
                key := PySem.Value.str (PySem.Str.ofString "__firstlineno__") 278, val := PySem.Value.int 43 277 },
              { hash := PySem.PyData.keyHash P (PySem.Str.ofString "__init__"),
                key := PySem.Value.str (PySem.Str.ofString "__init__") 286, val := PySem.Value.ref 79 },
              { hash := PySem.PyData.keyHash P (PySem.Str.ofString "_read_char"),
                key := PySem.Value.str (PySem.Str.ofString "_read_char") 294, val := PySem.Value.ref 86 },
              { hash := PySem.PyData.keyHash P (PySem.Str.ofString "get_token"),
                key := PySem.Value.str (PySem.Str.ofString "get_token") 304, val := PySem.Value.ref 93 },
              { hash := PySem.PyData.keyHash P (PySem.Str.ofString "push_token"),
                key := PySem.Value.str (PySem.Str.ofString "push_token") 312, val := PySem.Value.ref 100 },
              { hash := PySem.PyData.keyHash P (PySem.Str.ofString "__static_attributes__"),
                key := PySem.Value.str (PySem.Str.ofString "__static_attributes__") 317, val := PySem.Value.ref 101 },
              { hash := PySem.PyData.keyHash P (PySem.Str.ofString "__dict__"),
                key := PySem.Value.str (PySem.Str.ofString "__dict__") 319, val := PySem.Value.ref 104 },
              { hash := PySem.PyData.keyHash P (PySem.Str.ofString "__weakref__"),
                key := PySem.Value.str (PySem.Str.ofString "__weakref__") 321, val := PySem.Value.ref 105 },
              { hash := PySem.PyData.keyHash P (PySem.Str.ofString "__doc__"),
                key := PySem.Value.str (PySem.Str.ofString "__doc__") 322, val := PySem.Value.none }]
            4 }) ::
    (nat_lit 103,
      { cls := PySem.Value.type "type",
        data :=
          PySem.Data.cls
            { name := PySem.Str.ofString "_netrclex", bases := [PySem.Value.type "object"],
              mro := [PySem.Value.ref 103, PySem.Value.type "object"], ns := 102,
              qualname := PySem.Str.ofString "_netrclex" },
        slots :=
          #[Option.none, Option.none, Option.some (PySem.Value.str (PySem.Str.ofString "_netrclex") 267),
            Option.some (PySem.Value.str (PySem.Str.ofString "_netrclex") 275),
            Option.some (PySem.Value.builtin "object.__new__"), Option.some (PySem.Value.bool Bool.true)] }) ::
    (nat_lit 104,
      { cls := PySem.Value.type "getset_descriptor",
        data :=
          PySem.Data.fields
            #[PySem.Value.str (PySem.Str.ofString "__dict__") 318, PySem.Value.ref 103,
              PySem.Value.builtin "function.__dict__", PySem.Value.builtin "function.__dict__#set"] }) ::
    (nat_lit 105,
      { cls := PySem.Value.type "getset_descriptor",
        data :=
          PySem.Data.fields
            #[PySem.Value.str (PySem.Str.ofString "__weakref__") 320, PySem.Value.ref 103,
              PySem.Value.builtin "ExceptionGroup.__weakref__", PySem.Value.none] }) ::
    (nat_lit 108,
      { cls := PySem.Value.type "dict",
        data :=
          PySem.Data.dict
            #[{ hash := PySem.PyData.keyHash P (PySem.Str.ofString "!"),
                key := PySem.Value.str (PySem.Str.ofString "!") 421, val := PySem.Value.int 54 419 },
              { hash := PySem.PyData.keyHash P (PySem.Str.ofString "!="),
                key := PySem.Value.str (PySem.Str.ofString "!=") 423, val := PySem.Value.int 28 367 },
              { hash := PySem.PyData.keyHash P (PySem.Str.ofString "%"),
                key := PySem.Value.str (PySem.Str.ofString "%") 425, val := PySem.Value.int 24 359 },
              { hash := PySem.PyData.keyHash P (PySem.Str.ofString "%="),
                key := PySem.Value.str (PySem.Str.ofString "%=") 427, val := PySem.Value.int 40 391 },
              { hash := PySem.PyData.keyHash P (PySem.Str.ofString "&"),
                key := PySem.Value.str (PySem.Str.ofString "&") 429, val := PySem.Value.int 19 349 },
              { hash := PySem.PyData.keyHash P (PySem.Str.ofString "&="),
                key := PySem.Value.str (PySem.Str.ofString "&=") 431, val := PySem.Value.int 41 393 },
              { hash := PySem.PyData.keyHash P (PySem.Str.ofString "("),
                key := PySem.Value.str (PySem.Str.ofString "(") 433, val := PySem.Value.int 7 325 },
              { hash := PySem.PyData.keyHash P (PySem.Str.ofString ")"),
                key := PySem.Value.str (PySem.Str.ofString ")") 435, val := PySem.Value.int 8 327 },
              { hash := PySem.PyData.keyHash P (PySem.Str.ofString "*"),
                key := PySem.Value.str (PySem.Str.ofString "*") 437, val := PySem.Value.int 16 343 },
              { hash := PySem.PyData.keyHash P (PySem.Str.ofString "**"),
                key := PySem.Value.str (PySem.Str.ofString "**") 439, val := PySem.Value.int 35 381 },
              { hash := PySem.PyData.keyHash P (PySem.Str.ofString "**="),
                key := PySem.Value.str (PySem.Str.ofString "**=") 441, val := PySem.Value.int 46 403 },
              { hash := PySem.PyData.keyHash P (PySem.Str.ofString "*="),
                key := PySem.Value.str (PySem.Str.ofString "*=") 443, val := PySem.Value.int 38 387 },
              { hash := PySem.PyData.keyHash P (PySem.Str.ofString "+"),
                key := PySem.Value.str (PySem.Str.ofString "+") 445, val := PySem.Value.int 14 339 },
              { hash := PySem.PyData.keyHash P (PySem.Str.ofString "+="),
                key := PySem.Value.str (PySem.Str.ofString "+=") 447, val := PySem.Value.int 36 383 },
              { hash := PySem.PyData.keyHash P (PySem.Str.ofString ","),
                key := PySem.Value.str (PySem.Str.ofString ",") 449, val := PySem.Value.int 12 335 },
              { hash := PySem.PyData.keyHash P (PySem.Str.ofString "-"),
                key := PySem.Value.str (PySem.Str.ofString "-") 451, val := PySem.Value.int 15 341 },
              { hash := PySem.PyData.keyHash P (PySem.Str.ofString "-="),
                key := PySem.Value.str (PySem.Str.ofString "-=") 453, val := PySem.Value.int 37 385 },
              { hash := PySem.PyData.keyHash P (PySem.Str.ofString "->"),
                key := PySem.Value.str (PySem.Str.ofString "->") 455, val := PySem.Value.int 51 413 },
              { hash := PySem.PyData.keyHash P (PySem.Str.ofString "."),
                key := PySem.Value.str (PySem.Str.ofString ".") 457, val := PySem.Value.int 23 357 },
              { hash := PySem.PyData.keyHash P (PySem.Str.ofString "..."),
                key := PySem.Value.str (PySem.Str.ofString "...") 459, val := PySem.Value.int 52 415 },
              { hash := PySem.PyData.keyHash P (PySem.Str.ofString "/"),
                key := PySem.Value.str (PySem.Str.ofString "/") 461, val := PySem.Value.int 17 345 },
              { hash := PySem.PyData.keyHash P (PySem.Str.ofString "//"),
                key := PySem.Value.str (PySem.Str.ofString "//") 463, val := PySem.Value.int 47 405 },
              { hash := PySem.PyData.keyHash P (PySem.Str.ofString "//="),
                key := PySem.Value.str (PySem.Str.ofString "//=") 465, val := PySem.Value.int 48 407 },
              { hash := PySem.PyData.keyHash P (PySem.Str.ofString "/="),
                key := PySem.Value.str (PySem.Str.ofString "/=") 467, val := PySem.Value.int 39 389 },
              { hash := PySem.PyData.keyHash P (PySem.Str.ofString ":"),
                key := PySem.Value.str (PySem.Str.ofString ":") 469, val := PySem.Value.int 11 333 },
              { hash := PySem.PyData.keyHash P (PySem.Str.ofString ":="),
                key := PySem.Value.str (PySem.Str.ofString ":=") 471, val := PySem.Value.int 53 417 },
              { hash := PySem.PyData.keyHash P (PySem.Str.ofString ";"),
                key := PySem.Value.str (PySem.Str.ofString ";") 473, val := PySem.Value.int 13 337 },
              { hash := PySem.PyData.keyHash P (PySem.Str.ofString "<"),
                key := PySem.Value.str (PySem.Str.ofString "<") 475, val := PySem.Value.int 20 351 },
              { hash := PySem.PyData.keyHash P (PySem.Str.ofString "<<"),
                key := PySem.Value.str (PySem.Str.ofString "<<") 477, val := PySem.Value.int 33 377 },
              { hash := PySem.PyData.keyHash P (PySem.Str.ofString "<<="),
                key := PySem.Value.str (PySem.Str.ofString "<<=") 479, val := PySem.Value.int 44 399 },
              { hash := PySem.PyData.keyHash P (PySem.Str.ofString "<="),
                key := PySem.Value.str (PySem.Str.ofString "<=") 481, val := PySem.Value.int 29 369 },
              { hash := PySem.PyData.keyHash P (PySem.Str.ofString "="),
                key := PySem.Value.str (PySem.Str.ofString "=") 483, val := PySem.Value.int 22 355 },
              { hash := PySem.PyData.keyHash P (PySem.Str.ofString "=="),
                key := PySem.Value.str (PySem.Str.ofString "==") 485, val := PySem.Value.int 27 365 },
              { hash := PySem.PyData.keyHash P (PySem.Str.ofString ">"),
                key := PySem.Value.str (PySem.Str.ofString ">") 487, val := PySem.Value.int 21 353 },
              { hash := PySem.PyData.keyHash P (PySem.Str.ofString ">="),
                key := PySem.Value.str (PySem.Str.ofString ">=") 489, val := PySem.Value.int 30 371 },
              { hash := PySem.PyData.keyHash P (PySem.Str.ofString ">>"),
                key := PySem.Value.str (PySem.Str.ofString ">>") 490, val := PySem.Value.int 34 379 },
              { hash := PySem.PyData.keyHash P (PySem.Str.ofString ">>="),
                key := PySem.Value.str (PySem.Str.ofString ">>=") 491, val := PySem.Value.int 45 401 },
              { hash := PySem.PyData.keyHash P (PySem.Str.ofString "@"),
                key := PySem.Value.str (PySem.Str.ofString "@") 492, val := PySem.Value.int 49 409 },
              { hash := PySem.PyData.keyHash P (PySem.Str.ofString "@="),
                key := PySem.Value.str (PySem.Str.ofString "@=") 493, val := PySem.Value.int 50 411 },
              { hash := PySem.PyData.keyHash P (PySem.Str.ofString "["),
                key := PySem.Value.str (PySem.Str.ofString "[") 494, val := PySem.Value.int 9 329 },
              { hash := PySem.PyData.keyHash P (PySem.Str.ofString "]"),
                key := PySem.Value.str (PySem.Str.ofString "]") 495, val := PySem.Value.int 10 331 },
              { hash := PySem.PyData.keyHash P (PySem.Str.ofString "^"),
                key := PySem.Value.str (PySem.Str.ofString "^") 496, val := PySem.Value.int 32 375 },
              { hash := PySem.PyData.keyHash P (PySem.Str.ofString "^="),
                key := PySem.Value.str (PySem.Str.ofString "^=") 497, val := PySem.Value.int 43 397 },
              { hash := PySem.PyData.keyHash P (PySem.Str.ofString "{"),
                key := PySem.Value.str (PySem.Str.ofString "{") 498, val := PySem.Value.int 25 361 },
              { hash := PySem.PyData.keyHash P (PySem.Str.ofString "|"),
                key := PySem.Value.str (PySem.Str.ofString "|") 499, val := PySem.Value.int 18 347 },
              { hash := PySem.PyData.keyHash P (PySem.Str.ofString "|="),
                key := PySem.Value.str (PySem.Str.ofString "|=") 500, val := PySem.Value.int 42 395 },
              { hash := PySem.PyData.keyHash P (PySem.Str.ofString "}"),
                key := PySem.Value.str (PySem.Str.ofString "}") 501, val := PySem.Value.int 26 363 },
              { hash := PySem.PyData.keyHash P (PySem.Str.ofString "~"),
                key := PySem.Value.str (PySem.Str.ofString "~") 502, val := PySem.Value.int 31 373 }]
            48 }) ::
    (nat_lit 111, { cls := PySem.Value.type "tuple", data := PySem.Data.seq #[] }) ::
    (nat_lit 113,
      { cls := PySem.Value.type "tuple",
        data :=
          PySem.Data.seq
            #[PySem.Value.str (PySem.Str.ofString "text") 523, PySem.Value.str (PySem.Str.ofString "read") 524,
              PySem.Value.str (PySem.Str.ofString "stream") 525] }) ::
    (nat_lit 114,
      { cls := PySem.Value.type "tuple",
        data :=
          PySem.Data.seq
            #[PySem.Value.str (PySem.Str.ofString "text") 526, PySem.Value.str (PySem.Str.ofString "at") 527] }) ::
    (nat_lit 116,
      { cls := PySem.Value.type "code",
        data :=
          PySem.Data.fields
            #[PySem.Value.str (PySem.Str.ofString "_law_lexer") 520,
              PySem.Value.str (PySem.Str.ofString "_law_lexer") 521,
              PySem.Value.str (PySem.Str.ofString "/claim/cut.py") 522, PySem.Value.int 136 0, PySem.Value.int 1 0,
              PySem.Value.int 0 0, PySem.Value.int 0 0, PySem.Value.int 3 0, PySem.Value.ref 111,
              PySem.Value.bool Bool.true, PySem.Value.int 181 0, PySem.Value.ref 112, PySem.Value.none,
              PySem.Value.ref 113, PySem.Value.ref 114, PySem.Value.ref 115, PySem.Value.int 528 0,
              PySem.Value.int 136 0, PySem.Value.str (PySem.Str.ofString "/claim/cut.py") 529] }) ::
    (nat_lit 117,
      { cls := PySem.Value.type "function",
        data :=
          PySem.Data.func
            { name := PySem.Str.ofString "_law_lexer", qualname := PySem.Str.ofString "_law_lexer",
              params := ?a6, body := PySem.FuncBody.stmts ?b6, scope := ?s6,
              globals := 3, closure := [], defaults := PySem.Value.none, kwdefaults := PySem.Value.none,
              pyModule := PySem.Value.str (PySem.Str.ofString "law_tr0043_01") 518, code := PySem.Value.ref 116 } }) ::
    (nat_lit 118, { cls := PySem.Value.type "tuple", data := PySem.Data.seq #[] }) ::
    (nat_lit 121,
      { cls := PySem.Value.type "code",
        data :=
          PySem.Data.fields
            #[PySem.Value.str (PySem.Str.ofString "_law_word") 531,
              PySem.Value.str (PySem.Str.ofString "_law_word") 532,
              PySem.Value.str (PySem.Str.ofString "/claim/cut.py") 533, PySem.Value.int 145 0, PySem.Value.int 2 0,
              PySem.Value.int 0 0, PySem.Value.int 0 0, PySem.Value.int 3 0, PySem.Value.ref 118,
              PySem.Value.bool Bool.true, PySem.Value.int 181 0, PySem.Value.ref 119, PySem.Value.none,
              PySem.Value.none, PySem.Value.none, PySem.Value.ref 120, PySem.Value.int 534 0, PySem.Value.int 145 0,
              PySem.Value.str (PySem.Str.ofString "/claim/cut.py") 535] }) ::
    (nat_lit 122,
      { cls := PySem.Value.type "function",
        data :=
          PySem.Data.func
            { name := PySem.Str.ofString "_law_word", qualname := PySem.Str.ofString "_law_word",
              params := ?a7, body := PySem.FuncBody.stmts ?b7, scope := ?s7,
              globals := 3, closure := [], defaults := PySem.Value.none, kwdefaults := PySem.Value.none,
              pyModule := PySem.Value.str (PySem.Str.ofString "law_tr0043_01") 518, code := PySem.Value.ref 121 } }) ::
    (nat_lit 123, { cls := PySem.Value.type "tuple", data := PySem.Data.seq #[] }) ::
    (nat_lit 125, { cls := PySem.Value.type "tuple", data := PySem.Data.seq #[PySem.Value.str (PySem.Str.ofString "x") 540] }) ::
    (nat_lit 126, { cls := PySem.Value.type "tuple", data := PySem.Data.seq #[] }) ::
    (nat_lit 128,
      { cls := PySem.Value.type "code",
        data :=
          PySem.Data.fields
            #[PySem.Value.str (PySem.Str.ofString "_law_capped") 537,
              PySem.Value.str (PySem.Str.ofString "_law_capped") 538,
              PySem.Value.str (PySem.Str.ofString "/claim/cut.py") 539, PySem.Value.int 151 0, PySem.Value.int 1 0,
              PySem.Value.int 0 0, PySem.Value.int 0 0, PySem.Value.int 3 0, PySem.Value.ref 123,
              PySem.Value.bool Bool.true, PySem.Value.int 181 0, PySem.Value.ref 124, PySem.Value.none,
              PySem.Value.ref 125, PySem.Value.ref 126, PySem.Value.ref 127, PySem.Value.int 541 0,
              PySem.Value.int 151 0, PySem.Value.str (PySem.Str.ofString "/claim/cut.py") 542] }) ::
    (nat_lit 129,
      { cls := PySem.Value.type "function",
        data :=
          PySem.Data.func
            { name := PySem.Str.ofString "_law_capped", qualname := PySem.Str.ofString "_law_capped",
              params := ?a8, body := PySem.FuncBody.stmts ?b8, scope := ?s8,
              globals := 3, closure := [], defaults := PySem.Value.none, kwdefaults := PySem.Value.none,
              pyModule := PySem.Value.str (PySem.Str.ofString "law_tr0043_01") 518, code := PySem.Value.ref 128 } }) ::
    (nat_lit 130, { cls := PySem.Value.type "tuple", data := PySem.Data.seq #[] }) ::
    (nat_lit 132,
      { cls := PySem.Value.type "tuple",
        data :=
          PySem.Data.seq
            #[PySem.Value.str (PySem.Str.ofString "chain") 547, PySem.Value.str (PySem.Str.ofString "number") 548,
              PySem.Value.str (PySem.Str.ofString "mark") 549, PySem.Value.str (PySem.Str.ofString "port") 550] }) ::
    (nat_lit 133, { cls := PySem.Value.type "tuple", data := PySem.Data.seq #[] }) ::
    (nat_lit 135,
      { cls := PySem.Value.type "code",
        data :=
          PySem.Data.fields
            #[PySem.Value.str (PySem.Str.ofString "_law_led") 544, PySem.Value.str (PySem.Str.ofString "_law_led") 545,
              PySem.Value.str (PySem.Str.ofString "/claim/cut.py") 546, PySem.Value.int 153 0, PySem.Value.int 2 0,
              PySem.Value.int 0 0, PySem.Value.int 0 0, PySem.Value.int 3 0, PySem.Value.ref 130,
              PySem.Value.bool Bool.true, PySem.Value.int 181 0, PySem.Value.ref 131, PySem.Value.none,
              PySem.Value.ref 132, PySem.Value.ref 133, PySem.Value.ref 134, PySem.Value.int 551 0,
              PySem.Value.int 153 0, PySem.Value.str (PySem.Str.ofString "/claim/cut.py") 552] }) ::
    (nat_lit 136,
      { cls := PySem.Value.type "function",
        data :=
          PySem.Data.func
            { name := PySem.Str.ofString "_law_led", qualname := PySem.Str.ofString "_law_led",
              params := ?a9, body := PySem.FuncBody.stmts ?b9, scope := ?s9,
              globals := 3, closure := [], defaults := PySem.Value.none, kwdefaults := PySem.Value.none,
              pyModule := PySem.Value.str (PySem.Str.ofString "law_tr0043_01") 518, code := PySem.Value.ref 135 } }) ::
    (nat_lit 137, { cls := PySem.Value.type "tuple", data := PySem.Data.seq #[] }) ::
    (nat_lit 139,
      { cls := PySem.Value.type "tuple",
        data :=
          PySem.Data.seq
            #[PySem.Value.str (PySem.Str.ofString "lexer") 557, PySem.Value.str (PySem.Str.ofString "word") 558,
              PySem.Value.str (PySem.Str.ofString "kind") 559, PySem.Value.str (PySem.Str.ofString "port") 560,
              PySem.Value.str (PySem.Str.ofString "behind") 561, PySem.Value.str (PySem.Str.ofString "other") 562] }) ::
    (nat_lit 140, { cls := PySem.Value.type "tuple", data := PySem.Data.seq #[] }) ::
    (nat_lit 142,
      { cls := PySem.Value.type "code",
        data :=
          PySem.Data.fields
            #[PySem.Value.str (PySem.Str.ofString "_law_back") 554,
              PySem.Value.str (PySem.Str.ofString "_law_back") 555,
              PySem.Value.str (PySem.Str.ofString "/claim/cut.py") 556, PySem.Value.int 164 0, PySem.Value.int 1 0,
              PySem.Value.int 0 0, PySem.Value.int 0 0, PySem.Value.int 3 0, PySem.Value.ref 137,
              PySem.Value.bool Bool.true, PySem.Value.int 181 0, PySem.Value.ref 138, PySem.Value.none,
              PySem.Value.ref 139, PySem.Value.ref 140, PySem.Value.ref 141, PySem.Value.int 563 0,
              PySem.Value.int 164 0, PySem.Value.str (PySem.Str.ofString "/claim/cut.py") 564] }) ::
    (nat_lit 143,
      { cls := PySem.Value.type "function",
        data :=
          PySem.Data.func
            { name := PySem.Str.ofString "_law_back", qualname := PySem.Str.ofString "_law_back",
              params := ?a10, body := PySem.FuncBody.stmts ?b10, scope := ?s10,
              globals := 3, closure := [], defaults := PySem.Value.none, kwdefaults := PySem.Value.none,
              pyModule := PySem.Value.str (PySem.Str.ofString "law_tr0043_01") 518, code := PySem.Value.ref 142 } }) ::
    (nat_lit 144, { cls := PySem.Value.type "tuple", data := PySem.Data.seq #[] }) ::
    (nat_lit 147,
      { cls := PySem.Value.type "code",
        data :=
          PySem.Data.fields
            #[PySem.Value.str (PySem.Str.ofString "law") 566, PySem.Value.str (PySem.Str.ofString "law") 567,
              PySem.Value.str (PySem.Str.ofString "/claim/cut.py") 568, PySem.Value.int 179 0, PySem.Value.int 1 0,
              PySem.Value.int 0 0, PySem.Value.int 0 0, PySem.Value.int 3 0, PySem.Value.ref 144,
              PySem.Value.bool Bool.true, PySem.Value.int 181 0, PySem.Value.ref 145, PySem.Value.none,
              PySem.Value.none, PySem.Value.none, PySem.Value.ref 146, PySem.Value.int 569 0, PySem.Value.int 179 0,
              PySem.Value.str (PySem.Str.ofString "/claim/cut.py") 570] }) ::
    (nat_lit 148,
      { cls := PySem.Value.type "function",
        data :=
          PySem.Data.func
            { name := PySem.Str.ofString "law", qualname := PySem.Str.ofString "law",
              params := ?a11, body := PySem.FuncBody.stmts ?b11, scope := ?s11,
              globals := 3, closure := [], defaults := PySem.Value.none, kwdefaults := PySem.Value.none,
              pyModule := PySem.Value.str (PySem.Str.ofString "law_tr0043_01") 518, code := PySem.Value.ref 147 } }) :: []
noncomputable def hkAs : List Addr := 2 :: 3 :: 6 :: 15 :: 22 :: 23 :: 24 :: 25 :: 28 :: 35 :: 36 :: 37 :: 40 :: 47 :: 48 :: 49 :: 52 :: 54 :: 55 :: 57 :: 58 :: 59 :: 61 :: 62 :: 64 :: 65 :: 73 :: 75 :: 76 :: 78 :: 79 :: 80 :: 82 :: 83 :: 85 :: 86 :: 87 :: 89 :: 90 :: 92 :: 93 :: 94 :: 96 :: 97 :: 99 :: 100 :: 101 :: 102 :: 103 :: 104 :: 105 :: 108 :: 111 :: 113 :: 114 :: 116 :: 117 :: 118 :: 121 :: 122 :: 123 :: 125 :: 126 :: 128 :: 129 :: 130 :: 132 :: 133 :: 135 :: 136 :: 137 :: 139 :: 140 :: 142 :: 143 :: 144 :: 147 :: 148 :: []
theorem fillHead : (∀ P, wPart P = wPart P) ∨ PySem.Challenge.rw_tr0043_01.Holds := by
  k_fill
  exact .inl fun _ => rfl
end Mine

namespace Mine
open PySem PySem.W PyProof.Rows PySem.Calls PySem.Builtin PySem.Builtin.ObjectAttr
set_option maxHeartbeats 4000000
section
variable {prog : Program} {w : World} {A : Around} {E : Value → Shared → Prop} {s : Shared} {h₀ : Heap} {L f : Addr} {m : Str → Option Value} {news : List (Addr × Obj)} {fd : FuncData}

theorem slot_fn_setattr : Slot "function" "__setattr__" "object.__setattr__" :=
  Slot.of (owner := "object") (n := "__setattr__") (by rw [typeLookup_type, builtinLookup_eq_fast]; kernel_rfl) (by decide +kernel) (by decide +kernel) (by decide +kernel)
    (by first | exact .inl (by decide +kernel) | exact .inr (by decide +kernel)) (by rw [isSubtype_type]; kernel_rfl)

noncomputable abbrev fnObj (fd : FuncData) (d : Option Addr) : Obj := { cls := .type "function", dict := d, data := .func fd }

/-- f.read = v on a function object that has no dict yet -/
theorem setAttr_fn {v : Value} {Q : Unit → Shared → Prop} (F : Fr h₀ L s.heap m) (N : News h₀ L s.heap ((f, fnObj fd none) :: news))
    (hne : ∀ p ∈ news, p.1 ≠ f)
    (h : ∀ d h' tk k, Fr h₀ L h' m → News h₀ L h' ((d, dictOf [⟨PyData.keyHash w.params "read", .str "read" k, v⟩] 1) :: (f, fnObj fd (some d)) :: news) → (∀ p ∈ news, p.1 < d) → f < d → Q () { s with heap := h', toks := tk }) :
    wpAny (model prog w) A (setAttr (.ref f) "read" v) Q E s := by
  have hf := (N _ (.head _)).1
  obtain ⟨hp, gs, dr, tk, os⟩ := s
  dsimp only at F N hf
  have SF := PySem.F.store_object
  have L0 : Looks (model prog w) hp (typeOf (.ref f)) (.type "function") := (Looks.ld hf).andThen .now
  have Ls : Looks (model prog w) hp (typeLookup (.type "function") "__setattr__") (some (.builtin "object.__setattr__")) := Looks.of_pure slot_fn_setattr.lookup
  refine wpAny_bind (wpAny_mkText (wpAny_bind (wpAny_bind (wpAny_bind (L0.at (Ls.at (wpAny_holding ?_)))))))
  rw [slot_fn_setattr.bind]
  refine wpAny_bind (wpAny_pure (wpAny_bind (wpAny_call ?_)))
  refine codeAny_call_builtin slot_fn_setattr.plain SF.entry (slot_fn_setattr.check _ _ _ _ _ _ _ _ ⟨_, hf, rfl⟩ (SF.args _ _ _) ?_)
  simp only [List.singleton_append]
  rw [osa_eq, refuse_eq]
  have Lm : mroOf (.type "function") = pure [.type "function", .type "object"] := by kernel_rfl
  have Lr : refuseLoop (.ref f) "__setattr__" [.type "function", .type "object"] = pure () := by kernel_rfl
  have La : typeLookup (.type "function") "read" = pure none := by rw [typeLookup_type, builtinLookup_eq_fast]; kernel_rfl
  refine wpAny_bind (wpAny_bind (L0.at (wpAny_bind ?_)))
  rw [Lm]
  refine wpAny_pure ?_
  rw [Lr]
  refine wpAny_pure (wpAny_bind (L0.at (wpAny_bind ?_)))
  rw [La]
  refine wpAny_pure (wpAny_bind (wpAny_pure ?_))
  dsimp only
  unfold storeInOwnDict
  have Lo : ownStreamTells (.ref f) (.type "function") = pure () := by kernel_rfl
  rw [Lo]
  refine wpAny_bind (wpAny_pure ?_)
  rw [if_neg (by decide)]
  have Ld : dictMade (.type "function") f hp.objs.size = pure (some hp.objs.size) := by kernel_rfl
  have hf1 : (hp.push emptyDict).get? f = some (fnObj fd none) := Heap.get?_push_of_some _ hf
  refine wpAny_bind (wpAny_bind (wpAny_loadPart hf ?_))
  refine wpAny_bind (wpAny_alloc (wpAny_bind (wpAny_updatePart hf1 ?_)))
  simp only [Ld]
  refine wpAny_pure ?_
  have lf : f < hp.objs.size := Heap.lt_size hf
  have ln : ∀ p ∈ news, p.1 < hp.objs.size := fun p hp' => Heap.lt_size (N p (.tail _ hp')).1
  have N1 := News.push F N emptyDict
  have F1 := F.push emptyDict
  obtain ⟨F2, N2⟩ := news_upd (pre := [(hp.objs.size, emptyDict)]) (f := fun o => { o with dict := some hp.objs.size }) (o' := fnObj fd (some hp.objs.size)) F1 N1 (fun p hp' => by rw [List.mem_singleton.mp hp']; exact Nat.ne_of_gt lf) hne rfl rfl
  have hd2 := (N2 _ (.head _)).1
  dsimp only [emptyDict] at hd2 F2 N2
  generalize ((hp.push { cls := Value.type "dict", data := Data.dict #[] }).update f fun o => { cls := o.cls, dict := some hp.objs.size, data := o.data, slots := o.slots }) = h2 at *
  dsimp only
  unfold storeInDict newKeyGuard nsSet
  obtain ⟨F3, N3⟩ := news_upd (pre := []) (f := Obj.putName "read" (PyData.keyHash w.params "read") (.str "read" (tk + 1)) v) (o' := dictOf [⟨PyData.keyHash w.params "read", .str "read" (tk + 1), v⟩] 1) F2 N2 (fun _ hp' => nomatch hp') (fun p hp' => by
      rcases List.mem_cons.mp hp' with rfl | hp'
      · exact Nat.ne_of_lt lf
      · exact Nat.ne_of_lt (ln p hp')) (by rw [putName_dict]; rfl) rfl
  have hd3 := (N3 _ (.head _)).1
  refine wpAny_bind (wpAny_pure (wpAny_bind (wpAny_bind (wpAny_bind (wpAny_askSetting (wpAny_pure (wpAny_bind (wpAny_mkText (wpAny_bind (wpAny_loadPart hd2 ?_))))))))))
  dsimp only
  rw [if_neg (by decide)]
  refine wpAny_updatePart hd2 ?_
  refine wpAny_bind (wpAny_lookBehind hd3 (by rfl) ?_)
  exact wpAny_pure (wpAny_pure (wpAny_pure (h _ _ _ _ F3 N3 ln lf)))
end
end Mine

namespace Mine
open PySem PySem.W PyProof.Rows PySem.Calls PySem.Builtin PySem.Builtin.ObjectAttr
set_option maxHeartbeats 4000000
theorem lk_fn_ga : typeLookup (.type "function") "__getattribute__" = pure (some (.builtin "object.__getattribute__")) := by rw [typeLookup_type, builtinLookup_eq_fast]; kernel_rfl
theorem slot_fn_ga : Slot "function" "__getattribute__" "object.__getattribute__" :=
  Slot.of (owner := "object") (n := "__getattribute__") lk_fn_ga (by decide +kernel) (by decide +kernel) (by decide +kernel)
    (by first | exact .inl (by decide +kernel) | exact .inr (by decide +kernel)) (by rw [isSubtype_type]; kernel_rfl)
theorem entry_obj_ga : entryFor table "object.__getattribute__" = some Builtin.«object.__getattribute__» := entryFor_of_tree (by kernel_rfl)
theorem args_obj_ga (a b : Value) : argsOk "object.__getattribute__" ⟨[a, b], []⟩ := by unfold argsOk; kernel_rfl
theorem lk_fn_read : typeLookup (.type "function") "read" = pure none := by rw [typeLookup_type, builtinLookup_eq_fast]; kernel_rfl
theorem lk_fn_hook : typeLookup (.type "function") "__getattr__" = pure none := by rw [typeLookup_type, builtinLookup_eq_fast]; kernel_rfl
section
variable {prog : Program} {w : World} {A : Around} {E : Value → Shared → Prop} {s : Shared} {f d : Addr} {fd : FuncData} {es : List DictEntry} {n : Nat}
theorem looks_ns {M : Model} {h : Heap} {d : Addr} {name : Str} {r : Option Value} (hd : h.get? d = some (dictOf es n)) (hr : getL name es = some r) : Looks M h (nsGet d name) r := by
  refine (Looks.ld hd).andThen (Looks.of_pure (nsLook_of ?_))
  rw [lookIn_dict]; exact hr

theorem getMethod_fn {g : Addr} {pl : Sem Bool} {Q : Value × List Value → Shared → Prop} (hf : s.heap.get? f = some (fnObj fd (some d))) (hd : s.heap.get? d = some (dictOf es n)) (hr : getL "read" es = some (some (.ref g)))
    (h : Q (.ref g, []) { s with toks := s.toks + 1 }) : wpAny (model prog w) A (getMethod (.ref f) "read" pl) Q E s := by
  obtain ⟨hp, gs, dr, tk, os⟩ := s
  dsimp only at hf hd h
  have L0 : Looks (model prog w) hp (typeOf (.ref f)) (.type "function") := (Looks.ld hf).andThen .now
  have L1 : Looks (model prog w) hp (typeLookup (.type "function") "__getattribute__") (some (.builtin "object.__getattribute__")) := Looks.of_pure lk_fn_ga
  have L2 : Looks (model prog w) hp (typeLookup (.type "function") "__getattr__") none := Looks.of_pure lk_fn_hook
  have L3 : Looks (model prog w) hp (typeLookup (.type "function") "read") none := Looks.of_pure lk_fn_read
  have L4 := looks_ns (M := model prog w) hd hr
  unfold getMethod specialOf
  refine wpAny_bind (wpAny_bind (L0.at (L1.at ?_)))
  dsimp only
  rw [show (Manifest.canonical "object.__getattribute__" != "object.__getattribute__") = false from by decide +kernel]
  simp only [Bool.false_eq_true, if_false]
  refine wpAny_bind (wpAny_bind (L0.at (L2.at ?_)))
  simp only [Option.isSome_none, Bool.false_eq_true, if_false]
  refine wpAny_bind (wpAny_bind (L0.at (L3.at ?_)))
  dsimp only
  refine wpAny_bind ?_
  unfold getAttr getAttrBy
  refine wpAny_bind (wpAny_mkText (wpAny_holding (wpAny_bind (L0.at (wpAny_bind (L1.at ?_))))))
  dsimp only
  simp only [onTheHeap, Bool.false_and, Bool.false_eq_true, if_false]
  unfold getAttrByItsOwn hookBefore callGetattribute boundAndCalled
  simp only [onTheHeap, Bool.false_eq_true, if_false, Bool.and_false]
  refine wpAny_bind (wpAny_pure (wpAny_bind (wpAny_attempt (wpAny_holding ?_))))
  rw [slot_fn_ga.bind]
  refine wpAny_bind (wpAny_pure (wpAny_call ?_))
  dsimp only [List.singleton_append]
  refine codeAny_call_builtin slot_fn_ga.plain entry_obj_ga (slot_fn_ga.check _ _ _ _ _ _ _ _ ⟨_, hf, rfl⟩ (args_obj_ga _ _) ?_)
  unfold Builtin.«object.__getattribute__»

  repeat lk

  exact h
end
end Mine

namespace Mine
open PySem PySem.W PyProof.Rows PySem.Calls PySem.Builtin PySem.Builtin.ObjectAttr
set_option maxHeartbeats 4000000
noncomputable abbrev citObj (q : Addr) (t : Tok) : Obj := { cls := .type "callable_iterator", data := .fields #[.ref q, .str "" t, .bool false] }
theorem slot_cit_iter : Slot "callable_iterator" "__iter__" "callable_iterator.__iter__" :=
  Slot.of (owner := "callable_iterator") (n := "__iter__") (by rw [typeLookup_type, builtinLookup_eq_fast]; kernel_rfl) (by decide +kernel) (by decide +kernel) (by decide +kernel)
    (by first | exact .inl (by decide +kernel) | exact .inr (by decide +kernel)) (by rw [isSubtype_type]; kernel_rfl)
theorem slot_cit_next : Slot "callable_iterator" "__next__" "callable_iterator.__next__" :=
  Slot.of (owner := "callable_iterator") (n := "__next__") (by rw [typeLookup_type, builtinLookup_eq_fast]; kernel_rfl) (by decide +kernel) (by decide +kernel) (by decide +kernel)
    (by first | exact .inl (by decide +kernel) | exact .inr (by decide +kernel)) (by rw [isSubtype_type]; kernel_rfl)
theorem entry_cit_next : entryFor table "callable_iterator.__next__" = some Builtin.«callable_iterator.__next__» := entryFor_of_fast (by kernel_rfl)
theorem entry_cit_iter : entryFor table "callable_iterator.__iter__" = some Builtin.«dict_keyiterator.__iter__» :=
  entryFor_alias (id' := "dict_keyiterator.__iter__") (by kernel_rfl) (by decide +kernel) (by decide +kernel) (by kernel_rfl)
theorem args_cit_iter (a : Value) : argsOk "callable_iterator.__iter__" ⟨[a], []⟩ := by unfold argsOk; kernel_rfl
theorem args_cit_next (a : Value) : argsOk "callable_iterator.__next__" ⟨[a], []⟩ := by unfold argsOk; kernel_rfl
theorem iter_kind : builtinKind "iter" = none := by decide +kernel
theorem iter_plain : plainId "iter" = true := by decide +kernel
theorem iter_entry : entryFor table "iter" = some Builtin.«iter» := entryFor_of_fast (by kernel_rfl)
theorem args_iter2 (a b : Value) : argsOk "iter" ⟨[a, b], []⟩ := by unfold argsOk; kernel_rfl
theorem lk_method_call : typeLookup (.type "method") "__call__" = pure (some (.builtin "method.__call__")) := by rw [typeLookup_type, builtinLookup_eq_fast]; kernel_rfl
section
variable {prog : Program} {w : World} {A : Around} {E : Value → Shared → Prop} {s : Shared} {h₀ : Heap} {L q it : Addr} {m : Str → Option Value} {news : List (Addr × Obj)} {f self : Value} {t : Tok}

theorem call_iter2 {Q : Value → Shared → Prop} (F : Fr h₀ L s.heap m) (N : News h₀ L s.heap news) (hq : s.heap.get? q = some (methodObj f self))
    (h : ∀ it h', Fr h₀ L h' m → News h₀ L h' ((it, citObj q t) :: news) → (∀ p ∈ news, p.1 < it) → Q (.ref it) { s with heap := h' }) :
    wpAny (model prog w) A (call (.builtin "iter") [.ref q, .str "" t]) Q E s := by
  obtain ⟨hp, gs, dr, tk, os⟩ := s
  dsimp only at F N hq h
  have L0 : Looks (model prog w) hp (typeOf (.ref q)) (.type "method") := (Looks.ld hq).andThen .now
  have L1 : Looks (model prog w) hp (typeLookup (.type "method") "__call__") (some (.builtin "method.__call__")) := Looks.of_pure lk_method_call
  refine call_function_entry iter_kind iter_plain iter_entry (args_iter2 _ _) ?_
  unfold Builtin.«iter»
  refine wpAny_bind (wpAny_of_eq (a := [.ref q, .str "" t]) (by kernel_rfl) ?_)
  dsimp only
  unfold specialOf
  refine wpAny_bind (wpAny_bind (L0.at (L1.at ?_)))
  simp only [Option.isNone_some, Bool.false_eq_true, if_false]
  refine wpAny_bind (wpAny_rule (wpAny_bind (wpAny_newObj_type ?_ (by size_fits))))
  exact wpAny_pure ⟨_, rfl, h _ _ (F.push _) (News.push F N _) (fun p hp' => Heap.lt_size (N p hp').1)⟩

theorem pyIter_cit {Q : Value → Shared → Prop} (hi : s.heap.get? it = some (citObj q t)) (h : Q (.ref it) s) : wpAny (model prog w) A (pyIter (.ref it)) Q E s := by
  have hT : s.TypeIs (.ref it) "callable_iterator" := ⟨_, hi, rfl⟩
  refine wpAny_pyIter_slot hT slot_cit_iter (wpAny_call_entry slot_cit_iter hT entry_cit_iter ?_ (args_cit_iter _))
  refine wpAny_of_eq (a := .done (.ret (.ref it))) (by kernel_rfl) ⟨_, rfl, "callable_iterator", _, hT, slot_cit_next.lookup, h⟩

/-- one step of the iterator: the call of the bound method gives a str x -/
theorem pyNext_cit {fa : Addr} {fo : Obj} {fd : FuncData} {Q : Option Value → Shared → Prop} (hh : A.handled = none) (hi : s.heap.get? it = some (citObj q t)) (hq : s.heap.get? q = some (methodObj (.ref fa) self))
    (hf : s.heap.get? fa = some fo) (hfd : fo.data = .func fd)
    (h : codeAny (model prog w) A.in1 (.call (.ref fa) ⟨[self], []⟩) (fun r s' => ∃ x u, r = .ok (.ret (.str x u)) ∧ s'.heap.get? it = some (citObj q t) ∧ s'.heap.get? q = some (methodObj (.ref fa) self) ∧ s'.heap.get? fa = some fo ∧
      (if x = "" then ∀ h', Heap.ExtBut it s'.heap h' → Q none { s' with heap := h' } else Q (some (.str x u)) s')) s) :
    wpAny (model prog w) A (pyNext (.ref it)) Q E s := by
  have hT : s.TypeIs (.ref it) "callable_iterator" := ⟨_, hi, rfl⟩
  have bor : ∀ {A : Around} {Q' : Bool → Shared → Prop} {E : Value → Shared → Prop} {s' : Shared}, s'.heap.get? q = some (methodObj (.ref fa) self) → s'.heap.get? fa = some fo → Q' true s' → wpAny (model prog w) A (borrowsExactly (.ref q)) Q' E s' := by
    intro A Q' E s' e1 e2 z
    unfold borrowsExactly
    refine wpAny_bind (wpAny_load e1 ?_)
    dsimp only
    rw [if_pos (by decide)]
    refine wpAny_bind (wpAny_load e2 ?_)
    rw [hfd]
    exact wpAny_pure z
  unfold pyNext
  refine wpAny_bind (wpAny_attempt (wpAny_callSpecial?_slot (name := Str.ofString "__next__") hT slot_cit_next
    (wpAny_call_entry slot_cit_next hT entry_cit_next ?_ (args_cit_next _))))
  show wpAny _ _ (field (.ref it) 2 >>= _) _ _ s
  refine wpAny_bind (wpAny_field hi rfl (x := .bool false) rfl ?_)
  show wpAny _ _ (if (Value.bool false == Value.bool true) = true then _ else _) _ _ s
  rw [if_neg (by decide)]
  unfold callOutOfASlot
  refine wpAny_bind (wpAny_field hi rfl (x := .ref q) rfl ?_)
  refine wpAny_bind (wpAny_attempt (wpAny_bind (bor hq hf ?_)))
  simp only [if_true]
  unfold callBorrowed
  refine X.y_start _ _ _ _ _ _ _ _ _ _ _ _ (by nofun) ?_
  refine method_call hq ?_
  refine codeAny_mono (A := A.in1) h fun r s' z => ?_
  obtain ⟨x, u, rfl, e1, e2, e3, z⟩ := z
  refine X.y_endOk _ _ _ _ _ _ _ _ _ _ rfl ?_
  refine wpAny_bind (wpAny_field e1 rfl (x := .bool false) rfl ?_)
  show wpAny _ _ (if (Value.bool false == Value.bool true) = true then _ else _) _ _ s'
  rw [if_neg (by decide)]
  refine wpAny_bind (wpAny_field e1 rfl (x := .str "" t) rfl (wpAny_bind (wpAny_holding (wpAny_eqBool_str ?_))))
  by_cases hx : x = ""
  · rw [if_pos hx] at z
    subst hx
    simp only [decide_true, Bool.not_true, Bool.false_eq_true, if_false]
    refine wpAny_bind (wpAny_rule (wpAny_bind ?_))
    show wpAny _ _ (field (.ref it) 0 >>= _) _ _ s'
    refine wpAny_bind (wpAny_field e1 rfl (x := .ref q) rfl ?_)
    refine wpAny_bind ?_
    unfold slotLetsGo
    refine wpAny_bind (bor e2 e3 ?_)
    simp only [if_true]
    refine wpAny_pure ?_
    refine wpAny_bind (wpAny_setField_rec e1 (by simp) fun h1 d1 b1 => ?_)
    refine wpAny_bind (wpAny_setField_rec d1 (by simp) fun h2 d2 b2 => ?_)
    refine wpAny_setField_rec d2 (by simp) fun h3 d3 b3 => ?_
    show wpAny _ _ (newExc (.type "StopIteration") [] >>= _) _ _ _
    refine wpAny_bind ?_
    simp only [newExc, newTuple]
    refine wpAny_bind (wpAny_newObj_type ?_ (by size_fits))
    refine wpAny_bind (m := firstArgMember _ _) (wpAny_of_eq (a := Value.none) (by first | rfl | (simp only [firstArgMember]; rfl)) ?_)
    refine wpAny_newObj_type ?_ (by size_fits)
    simp only [raiseNew]
    refine wpAny_bind (wpAny_handled ?_)
    rw [show A.in1.handled = none from hh]
    refine wpAny_bind (wpAny_pure (wpAny_throw ?_))
    refine wpAny_bind (wpAny_isInstance (T := "StopIteration") (b := true) ⟨_, Heap.get?_push_size _ rfl, rfl⟩ isSubtype_stop ?_)
    refine wpAny_pure (z _ ?_)
    exact (((b1.trans b2).trans b3).extBut.push _).push _
  · rw [if_neg hx] at z
    rw [decide_eq_false (fun e => hx e.symm)]
    simp only [Bool.not_false, if_true]
    exact wpAny_pure ⟨_, rfl, wpAny_pure z⟩
end
end Mine

namespace Mine
open PySem PySem.W PyProof.Rows PySem.Calls
set_option maxHeartbeats 4000000
section
variable {prog : Program} {w : World} {A : Around} {E : Value → Shared → Prop} {s : Shared}
/-- one turn of a for, the rest of the loop again as a code -/
theorem forLoop_turn {R : Result → Shared → Prop} {x : Str} {px : Pos} {it : Value} {body : List Stmt} {env : Env}
    (h : wpAny (model prog w) A (pyNext it) (fun r s₁ => match r with
      | none => R (.ok .next) s₁
      | some v => wpAny (model prog w) A (storeName env x v) (fun _ s₂ => wpAny (model prog w) A (execs body env) (fun f s₃ => match f with
          | .next | .cont => codeAny (model prog w) A (.forLoop (.Name x px) it body [] env) R s₃
          | .brk => R (.ok .next) s₃
          | .ret v => R (.ok (.ret v)) s₃) (notedBy (model prog w) A env fun e s' => R (.error e) s') s₂) (notedBy (model prog w) A env fun e s' => R (.error e) s') s₁) (notedBy (model prog w) A env fun e s' => R (.error e) s') s) :
    codeAny (model prog w) A (.forLoop (.Name x px) it body [] env) R s := by
  refine codeAny_of_tree ?_
  show wpAny _ _ ((forTurn (.Name x px) it body [] env).onRaise (fun x => do noteFrame x env; theTreesLotGoes x)) _ _ s
  refine wpAny_noted ?_
  simp only [forTurn]
  refine wpAny_bind (wpAny_standAt (wpAny_bind (wpAny_onRaise (wpAny_mono h (fun r s₁ h₁ => ?_) fun _ _ h' => wpAny_standAt h'))))
  cases r with
  | none => exact wpAny_pure ⟨rfl, codeAny_block (wpAny_execs_nil h₁)⟩
  | some v =>
    refine wpAny_bind (wpAny_of_eq (a := ()) (by rfl) ?_)
    refine wpAny_bind (wpAny_bind (wpAny_standAt (wpAny_bindName (wpAny_mono h₁ (fun _ s₂ h₂ => wpAny_bind (wpAny_mono h₂ (fun f s₃ h₃ => ?_) fun _ _ h' => h')) fun _ _ h' => h'))))
    cases f with
    | next => exact wpAny_pure ⟨rfl, h₃⟩
    | cont => exact wpAny_pure ⟨rfl, h₃⟩
    | brk => exact wpAny_pure h₃
    | ret v => exact wpAny_pure h₃
theorem wpAny_ForN {x y : Str} {px py pos : Pos} {body : List Stmt} {env : Env} {Q : Flow → Shared → Prop}
    (h : wpAny (model prog w) A (eval (.Name y py) env) (fun v s₁ => wpAny (model prog w) A (pyIter v) (fun it s₂ => codeAny (model prog w) A (.forLoop (.Name x px) it body [] env) (fun r s' => match r with | .ok f => Q f s' | .error e => cameBackBy (model prog w) A env E e s') s₂) E s₁) E s) :
    wpAny (model prog w) A (exec (.For (.Name x px) (.Name y py) body [] pos) env) Q E s := by
  rw [exec_For]
  refine wpAny_bind (wpAny_standAt (wpAny_bind (wpAny_mono h (fun v s₁ h₁ => ?_) fun _ _ e => e)))
  refine wpAny_bind (wpAny_of_eq (a := v) (by rfl) (wpAny_bind (wpAny_standAt (wpAny_bind (wpAny_holding (wpAny_mono h₁ (fun it s₂ h₂ => ?_) fun _ _ e => e))))))
  exact wpAny_runOwn h₂
end
end Mine

namespace Mine
open PySem PySem.W PyProof.Rows PySem.Calls PySem.Spec
set_option maxHeartbeats 4000000
open LCg
section
variable {prog : Program} {w : World} {A : Around} {E : Value → Shared → Prop} {s : Shared} {h₀ : Heap} {L : Addr} {m : Str → Option Value} {env : Env}
noncomputable def CompTxt (prog : Program) (w : World) (A : Around) (h₀ : Heap) (L : Addr) (m : Str → Option Value) (env : Env) (elt : Expr) (x : Str) (scope : Scope) (cl : List (Str × Addr)) (Q : Value → Shared → Prop) (xv : Value) (s₁ : Shared) : Prop :=
  ∃ txt tt news, xv = .str txt tt ∧ A.handled = none ∧ Fr h₀ L s₁.heap m ∧ News h₀ L s₁.heap news ∧ txt.cps.size ≤ sizeLine ∧
    ∀ s₂, (∃ hh, s₂ = { s₁ with heap := hh }) → CompRest prog w A h₀ L m env elt x scope cl s₂ (fun _ => True) (SignAt txt) (FinE h₀ L m s₂ Q) txt.cps.size 0 [] news
theorem ListComp_S {elt iter : Expr} {x : Str} {px : Pos} {scope : Scope} {cl : List (Str × Addr)} {pos : Pos} {Q : Value → Shared → Prop} (_F₀ : Fr h₀ L s.heap m)
    (hclos : closureFor scope env = pure cl) (hcell : ∀ y ∈ scope.names, y.2 ≠ .cell) (hkind : scope.kind = .function)
    (hnames : ∀ y ∈ scope.names, y.2 = .local → scope.names.lookup y.1 = some .local) (hx : scope.names.lookup x = some .local)
    (h : wpAny (model prog w) A (eval iter env) (CompTxt prog w A h₀ L m env elt x scope cl Q) E s)
    (hs : ∀ x, foldedSetIterable iter env x = pure x := by intro _; rfl) :
    wpAny (model prog w) A (eval (.ListComp elt [⟨.Name x px, iter, [], 0⟩] scope pos) env) Q E s := by
  rw [eval_ListComp]
  refine wpAny_comprehension_free (use := none) rfl hs hclos hkind hnames (wpAny_mono h (fun xv s₁ h₁ => ?_) fun _ _ e => e)
  obtain ⟨txt, tt, news, rfl, hh, F, N, hsz, R⟩ := h₁
  cases ha : txt.cps.all (· < 128)
  · refine wpAny_pyIter_wide ha ?_
    have up : ∀ b o', s₁.heap.get? b = some o' → (s₁.heap.push { cls := .type "str_iterator", data := .fields #[.str txt tt, .int 0 0] }).get? b = some o' := fun b o e => Heap.get?_push_of_some _ e
    refine block_U (Walks.strWide hh _ txt tt) hsz (fun i h st => by obtain ⟨o, e, _⟩ := st; exact ⟨o, e⟩) (fun i h h' o nw st e e' _ _ _ => by obtain ⟨o', q, r⟩ := st; rw [e] at q; cases q; exact ⟨o, e', r⟩) hcell hkind hx ⟨_, Heap.get?_push_size _ rfl, rfl, rfl⟩ (fun b hb => ?_)
      (F.keeps up) (N.grown up) (Nat.ne_of_lt F.ns.lt) (next_is_new F) (fun p hp => Nat.ne_of_lt (Heap.lt_size (N p hp).1)) trivial (R _ ⟨_, rfl⟩) ?_
    · rw [List.mem_singleton.mp hb]
      show s₁.heap.objs.size < (s₁.heap.push _).objs.size
      rw [Heap.size_push]; exact Nat.lt_succ_self _
    · intro D C h tk m' ys news' F' N' o1 hn hC₀ hD₀ hCL hDL hCD offC fin
      refine ⟨m', hn, fun h'' hs'' => fin D h'' tk (F'.change hs'' hCL hC₀) (fun p hp => ?_) o1⟩
      refine ⟨hs''.extBut _ _ ?_ (N' p hp).1, (N' p hp).2⟩
      rcases List.mem_cons.mp hp with rfl | hp
      · exact Ne.symm hCD
      · exact offC p hp
  · refine wpAny_pyIter_ascii ha ?_
    have up : ∀ b o', s₁.heap.get? b = some o' → (s₁.heap.push { cls := .type "str_ascii_iterator", data := .fields #[.str txt tt, .int 0 0] }).get? b = some o' := fun b o e => Heap.get?_push_of_some _ e
    refine block_U (Walks.strAscii hh _ txt tt) hsz (fun i h st => by obtain ⟨o, e, _⟩ := st; exact ⟨o, e⟩) (fun i h h' o nw st e e' _ _ _ => by obtain ⟨o', q, r⟩ := st; rw [e] at q; cases q; exact ⟨o, e', r⟩) hcell hkind hx ⟨_, Heap.get?_push_size _ rfl, rfl, rfl⟩ (fun b hb => ?_)
      (F.keeps up) (N.grown up) (Nat.ne_of_lt F.ns.lt) (next_is_new F) (fun p hp => Nat.ne_of_lt (Heap.lt_size (N p hp).1)) trivial (R _ ⟨_, rfl⟩) ?_
    · rw [List.mem_singleton.mp hb]
      show s₁.heap.objs.size < (s₁.heap.push _).objs.size
      rw [Heap.size_push]; exact Nat.lt_succ_self _
    · intro D C h tk m' ys news' F' N' o1 hn hC₀ hD₀ hCL hDL hCD offC fin
      refine ⟨m', hn, fun h'' hs'' => fin D h'' tk (F'.change hs'' hCL hC₀) (fun p hp => ?_) o1⟩
      refine ⟨hs''.extBut _ _ ?_ (N' p hp).1, (N' p hp).2⟩
      rcases List.mem_cons.mp hp with rfl | hp
      · exact Ne.symm hCD
      · exact offC p hp
end
end Mine

namespace Mine
open PySem PySem.W PyProof.Rows PySem.Calls PySem.Spec
set_option maxHeartbeats 4000000
open LCg
section
variable {prog : Program} {w : World} {A : Around} {E : Value → Shared → Prop} {s : Shared} {h₀ : Heap} {L : Addr} {m : Str → Option Value} {env : Env}
noncomputable def TxtsAre : List Value → List Str → Prop
  | [], [] => True
  | .str x _ :: vs, y :: ys => x = y ∧ TxtsAre vs ys
  | _, _ => False
theorem TxtsAre.snoc : ∀ {vs : List Value} {ys : List Str} {x : Str} {t : Tok}, TxtsAre vs ys → TxtsAre (vs ++ [.str x t]) (ys ++ [x])
  | [], [], _, _, _ => ⟨rfl, trivial⟩
  | .str _ _ :: _, _ :: _, _, _, h => ⟨h.1, h.2.snoc⟩
theorem compTxt_of {elt : Expr} {x : Str} {scope : Scope} {cl : List (Str × Addr)} {txt : Str} {news : List (Addr × Obj)} {Fin : List Value → List (Addr × Obj) → Prop} (f : Nat → Str)
    (step : ∀ c u I oI C oC D m₂ h tk (E' : Value → Shared → Prop) ys, c ∈ txt.cps.toList → NsObj oC m₂ → m₂ x = some (.str ⟨#[c]⟩ u) → Fr h₀ L h m → News h₀ L h ((I, oI) :: (C, oC) :: (D, lst ys) :: news) →
      wpAny (model prog w) A (eval elt (compEnvC scope cl C env)) (fun y s₂ => ∃ h' tk' t, s₂ = { s with heap := h', toks := tk' } ∧ Fr h₀ L h' m ∧ News h₀ L h' ((I, oI) :: (C, oC) :: (D, lst ys) :: news) ∧ y = .str (f c) t) E' { s with heap := h, toks := tk })
    (fin : ∀ ys, TxtsAre ys (txt.cps.toList.map f) → Fin ys news) :
    ∀ (k i : Nat) (ys : List Value), i + k = txt.cps.size → TxtsAre ys ((txt.cps.toList.take i).map f) → CompRest prog w A h₀ L m env elt x scope cl s (fun _ => True) (SignAt txt) Fin k i ys news
  | 0, i, ys, hk, hy => by
    refine .zero (fin ys ?_)
    rwa [List.take_of_length_le (by simp; omega)] at hy
  | k + 1, i, ys, hk, hy => by
    refine .succ fun v I oI C oC D m₂ h tk E' hP hns hm F N off hne => ?_
    obtain ⟨c, u, hc, rfl⟩ := hP
    have hc' : txt.cps.toList[i]? = some c := by simpa using hc
    refine wpAny_mono (step c u I oI C oC D m₂ h tk E' ys (List.mem_of_getElem? hc') hns hm F N) (fun y s₂ hq => ?_) fun _ _ e => e
    obtain ⟨h', tk', t, rfl, F', N', rfl⟩ := hq
    refine CompEnd.intro (s₁ := { s with heap := h, toks := tk }) F' N' news (fun p hp => hp) off trivial (compTxt_of f step fin k (i + 1) _ (by omega) ?_)
    rw [List.take_succ, hc', Option.toList_some, List.map_append]
    exact hy.snoc
theorem sumTwo {f : Nat → Str} (hf : ∀ c, (f c).length ≤ 2) : ∀ l : List Nat, ((l.map f).map (·.length)).sum ≤ 2 * l.length
  | [] => Nat.le_refl _
  | c :: l => by
    have h1 := hf c
    have h2 := sumTwo hf l
    simp only [List.map_cons, List.sum_cons, List.length_cons]
    omega
end
end Mine

namespace Mine
open PySem PySem.W PyProof.Rows PySem.Calls PySem.Spec
set_option maxHeartbeats 4000000
theorem memX {env : Env} {L b : Addr} {outer : List Env} (hf : env.frame = some L) (hm : b ∈ (env :: outer).filterMap (·.frame)) : b = L ∨ b ∈ outer.filterMap (·.frame) := by
  obtain ⟨e, he, hb⟩ := List.mem_filterMap.mp hm
  rcases List.mem_cons.mp he with rfl | he
  · exact .inl (Option.some.inj (hf.symm.trans hb)).symm
  · exact .inr (List.mem_filterMap.mpr ⟨e, he, hb⟩)
section
variable {prog : Program} {w : World} {A₀ A : Around} {s : Shared} {base h₀ g₀ : Heap} {outer : List Env} {L a : Addr} {m : Str → Option Value} {env : Env} {news : List (Addr × Obj)} {K : Frag} {p : Program} {loose : List Str} {mean : ExcName → Option Value} {mg mb : Str → Option Value}
    {R : Result → Shared → Prop} {name qual : Str} {params : Arguments} {body : List Stmt} {scope : Scope} {dV kV doc pm cdv ct oc : Value} {an od : Option Addr} {osl : Array (Option Value)} {f : Addr} {args : Args} {binds : List (Str × Value)}
/-- a call of a def that catches, from any frame, closures' cells or none -/
theorem code_defSX (B : Below A₀ base outer h₀) (F : Fr h₀ L s.heap m) (X₀ : K.In h₀) (N : News h₀ L s.heap news) (T : Top p loose mean mg mb h₀) (XB : K.In base) (TB : Top p loose mean mg mb base) (D : KtsDicts (outer.filterMap (·.frame)) h₀)
    (T0 : KtsTurn (outer.filterMap (·.frame)) g₀ h₀) (hA : A.frames = some (env :: outer)) (hf : env.frame = some L) (hke : env.scope.kind = .function)
    (ho : K.lookup f = some ⟨oc, od, .func (fnOf name qual params body scope dV kV doc pm an cdv ct), osl⟩) (hcd : codeIn K cdv qual = true) (hroom : A.depth < recursionLimit)
    (hbind : BindsTo s (fnOf name qual params body scope dV kV doc pm an cdv ct) args binds) (hloc : ∀ y ∈ binds, scope.names.lookup y.1 = some .local)
    (h : ∀ g L' h₁, Fr h₀ L g m → Fr g L' h₁ (fun y => binds.reverse.lookup y) → News g L' h₁ news → Below A base (env :: outer) g → K.In g → Top p loose mean mg mb g → KtsDicts ((env :: outer).filterMap (·.frame)) g →
      wpAny (model prog w) (A.deeper (envOf qual scope L' f cdv)) (execs body (envOf qual scope L' f cdv))
        (fun fl s' => LeaveS ((env :: outer).filterMap (·.frame)) A₀ base outer K p loose mean mg mb g₀ h₀ L m g R (match fl with | .ret v => v | _ => .none) s')
        (fun e s' => wpAny (model prog w) (A.deeper (envOf qual scope L' f cdv)) (leaving (envOf qual scope L' f cdv) e) (fun _ s'' => R (.error e) s'') (fun e' s'' => R (.error e') s'') s')
        { s with heap := h₁, toks := s.toks + binds.length })
    (hco : scope.isCoroutine = false) (hgen : scope.isGenerator = false) (hk : scope.kind = .function)
    (hcell : ∀ x ∈ scope.names, x.2 ≠ .cell) : codeAny (model prog w) A (.call (.ref f) args) R s := by
  have X := X₀.keeps F.keep
  refine codeAny_call_def (fd := fnOf name qual params body scope dV kV doc pm an cdv ct) (body := body) (binds := binds) hroom (X _ _ ho) rfl (T.nolimit.keeps F.keep) (codeRec_of X hcd) rfl hbind hcell hloc (fun h₁ hns hk₁ => ?_) hco hgen hk
  obtain ⟨FG, BG, st, _⟩ := groundX (R := R) B F N hA hf hke
  obtain ⟨oL, es, ep, hL, hLd, hLk, hLf⟩ := F.ns
  have hLg : (hideAll s.heap (news.map (·.1))).get? L = some oL := hideAll_get _ hL fun q => by
    obtain ⟨p, hp, e⟩ := List.mem_map.mp q
    exact (N p hp).2.1 e
  have nL₀ : h₀.get? L = none := by
    cases q : h₀.get? L with
    | none => rfl
    | some o => exact absurd (Nat.lt_of_lt_of_le (Heap.lt_size q) F.above) (Nat.lt_irrefl _)
  refine wpAny_mono (h _ s.heap.objs.size h₁ FG ⟨hns, fun b o e => hk₁ b o (of_hideAll _ e), Nat.le_of_eq (hideAll_size _ _)⟩
    (fun p hp => ⟨hk₁ _ _ (N p hp).1, Nat.ne_of_lt (Heap.lt_size (N p hp).1), hideAll_none _ (List.mem_map_of_mem hp)⟩) BG (X₀.keeps st) (T.keeps st) (fun b hb => by
      rcases memX hf hb with rfl | hb
      · exact ⟨oL, es, ep, hLg, hLd⟩
      · obtain ⟨o, es', n', ho', hd'⟩ := D b hb
        exact ⟨o, es', n', st b o ho', hd'⟩)) (fun fl s' hl => ?_) fun _ _ y => y
  rcases hl with ⟨L', m', news', F', N', k⟩ | ⟨g', L', m', news', T', F', N', k⟩
  · refine k ⟨⟨oL, es, ep, F'.keep _ _ hLg, hLd, hLk, hLf⟩, fun b o e => F'.keep b o (st b o e), F.above⟩ fun p hp => ⟨(N' p hp).1, fun q => ?_, ?_⟩
    · have := (N' p hp).2.2
      rw [q, hLg] at this
      cases this
    · cases q : h₀.get? p.1 with
      | none => rfl
      | some o =>
        have := (N' p hp).2.2
        rw [st _ _ q] at this
        cases this
  · obtain ⟨sl, hs⟩ := T'.up hLg
    obtain ⟨T₁, S₁⟩ := kts_turn_at (h := s'.heap) (fs := outer.filterMap (·.frame)) (g := h₀)
      (fun b hb => by
        obtain ⟨_, o, ho', _⟩ := B.frames.mem hb
        exact ⟨o, ho'⟩)
      (fun b o e nmem => F'.keep b o (T'.other b o (st b o e) (fun q => by
        rcases memX hf q with z | z
        · rw [z, nL₀] at e
          cases e
        · exact nmem z)))
      (fun b o e hm => by
        obtain ⟨sl', hs'⟩ := T'.up (st b o e)
        exact ⟨sl', F'.keep _ _ hs'⟩)
    have B₃ : Below A₀ base outer (ktsHeap s'.heap (outer.filterMap (·.frame)) h₀) := ⟨B.stack, fun b o e => T₁.other b o (B.stays b o e) (fun hm => by
      rw [(B.frames.mem hm).1] at e
      cases e), B.frames.of_keeps fun b o e _ => by
      obtain ⟨sl', hs'⟩ := T₁.up e
      exact ⟨_, hs', rfl⟩⟩
    refine k _ (T0.trans T₁) ⟨⟨_, es, ep, F'.keep _ _ hs, hLd, hLk, hLf⟩, S₁, by rw [T₁.size]; exact F.above⟩ (fun p hp => ⟨(N' p hp).1, fun q => ?_, ?_⟩) B₃ (XB.keeps B₃.stays) (TB.keeps B₃.stays) (D.turn T₁)
    · have := (N' p hp).2.2
      rw [q, hs] at this
      cases this
    · refine T₁.none_ _ ?_
      cases q : h₀.get? p.1 with
      | none => rfl
      | some o =>
        obtain ⟨sl', hs'⟩ := T'.up (st _ _ q)
        have := (N' p hp).2.2
        rw [hs'] at this
        cases this
end
end Mine

namespace Mine
open PySem PySem.W PyProof.Rows PySem.Calls PySem.Spec
set_option maxHeartbeats 4000000
theorem pickN {vs : List Value} {ns : List Int} (h : IntsAre vs ns) (k : Nat) : IntsAre (slicePick vs.toArray none (some (k : Int)) none).toList (ns.take k) := by
  have e : sliceBounds none (some (k : Int)) none vs.toArray.size = (((0 : Nat) : Int), ((min k vs.length : Nat) : Int), 1) := by
    unfold sliceBounds
    have h1 : ¬ ((k : Int) < 0) := by omega
    simp only [h1, if_false, Option.getD_none, List.size_toArray]
    have h2 : max (0 : Int) (min (k : Int) (vs.length : Int)) = ((min k vs.length : Nat) : Int) := by omega
    simp [h2]
  rw [kmk_pick_nat vs.toArray e]
  have e2 : (List.take (min k vs.length - 0) (List.drop 0 vs.toArray.toList)).toArray.toList = vs.take k := by
    simp [List.take_eq_take_min (l := vs) (i := k)]
  rw [e2]
  exact h.take k
theorem intsLen {vs : List Value} {ns : List Int} (h : IntsAre vs ns) (hn : ns.length ≤ 1000) : vs.toArray.size ≤ sizeLine := by
  have e : vs.length = ns.length := h.length
  rw [List.size_toArray, e]
  exact Nat.le_trans hn (Nat.le_of_ble_eq_true rfl)
theorem itemsRest_of2 {prog : Program} {w : World} {A : Around} {E : Value → Shared → Prop} {h₀ : Heap} {env : Env} {target : Expr} {body : List Stmt} {Q : Flow → Shared → Prop} {s : Shared} {ws : List (Addr × String)} {keep : List (Addr × Obj)} (Inv : List Value → (Str → Option Value) → List (Addr × Obj) → Prop)
    (zero : ∀ m news, Inv [] m news → ∀ h tk, Fr h₀ env.locals h m → News h₀ env.locals h news → Q .next { s with heap := h, toks := tk })
    (succ : ∀ v r m news, Inv (v :: r) m news → (∀ m' news', Inv r m' news' → ItemsRest prog w A E h₀ env target body Q s ws keep (r.map .val) m' news') → ItemsRest prog w A E h₀ env target body Q s ws keep (.val v :: r.map .val) m news) :
    ∀ vs m news, Inv vs m news → ItemsRest prog w A E h₀ env target body Q s ws keep (vs.map .val) m news
  | [], m, news, h => .zero (zero m news h)
  | v :: r, m, news, h => succ v r m news h (itemsRest_of2 Inv zero succ r)
end Mine

namespace Mine
open PySem PySem.W PyProof.Rows PySem.Calls PySem.Spec
set_option maxHeartbeats 4000000
open LCg
section
variable {prog : Program} {w : World} {A : Around} {E : Value → Shared → Prop} {s : Shared} {h₀ : Heap} {L : Addr} {m : Str → Option Value} {env : Env}
theorem compInv {elt : Expr} {x : Str} {scope : Scope} {cl : List (Str × Addr)} {S : List (Addr × Obj) → Prop} {P : Nat → Value → Prop} {Fin : List Value → List (Addr × Obj) → Prop} (n : Nat) (Inv : Nat → List Value → List (Addr × Obj) → Prop)
    (fin : ∀ ys news, Inv n ys news → Fin ys news)
    (step : ∀ i ys news v I oI C oC D m₂ h tk (E' : Value → Shared → Prop), i < n → Inv i ys news → P i v → NsObj oC m₂ → m₂ x = some v → Fr h₀ L h m → News h₀ L h ((I, oI) :: (C, oC) :: (D, lst ys) :: news) → Off3 I C D news → ((@Ne Nat I C) ∧ (@Ne Nat I D) ∧ (@Ne Nat C D)) →
      wpAny (model prog w) A (eval elt (compEnvC scope cl C env)) (fun y s₂ => ∃ h' tk' news', s₂ = { s with heap := h', toks := tk' } ∧ Fr h₀ L h' m ∧ News h₀ L h' ((I, oI) :: (C, oC) :: (D, lst ys) :: news') ∧ Off3 I C D news' ∧ S news' ∧ Inv (i + 1) (ys ++ [y]) news') E' { s with heap := h, toks := tk }) :
    ∀ (k i : Nat) (ys : List Value) (news : List (Addr × Obj)), i + k = n → Inv i ys news → CompRest prog w A h₀ L m env elt x scope cl s S P Fin k i ys news
  | 0, i, ys, news, hk, hi => .zero (fin ys news (by rw [show n = i by omega]; exact hi))
  | k + 1, i, ys, news, hk, hi => by
    refine .succ fun v I oI C oC D m₂ h tk E' hP hns hm F N off hne => ?_
    refine wpAny_mono (step i ys news v I oI C oC D m₂ h tk E' (by omega) hi hP hns hm F N off hne) (fun y s₂ hq => ?_) fun _ _ e => e
    obtain ⟨h', tk', news', rfl, F', N', off', S', hi'⟩ := hq
    exact CompEnd.intro (s₁ := { s with heap := h, toks := tk }) F' N' news' (fun p hp => hp) off' S' (compInv n Inv fin step k (i + 1) _ _ (by omega) hi')
end
end Mine

namespace Mine
open PySem PySem.W PyProof.Rows PySem.Calls PySem.Spec
set_option maxHeartbeats 4000000
open LCg LCp
section
variable {prog : Program} {w : World} {A : Around} {E : Value → Shared → Prop} {s : Shared} {h₀ : Heap} {L : Addr} {m : Str → Option Value} {env : Env}
theorem compInvP {elt : Expr} {x x₂ : Str} {scope : Scope} {cl : List (Str × Addr)} {S : List (Addr × Obj) → Prop} {P : Nat → Value → Prop} {Fin : List Value → List (Addr × Obj) → Prop} (n : Nat) (Inv : Nat → List Value → List (Addr × Obj) → Prop)
    (fin : ∀ ys news, Inv n ys news → Fin ys news)
    (src : ∀ i ys news v, i < n → Inv i ys news → P i v → ∃ (t : Addr) (ot : Obj) (v₁ v₂ : Value) (nt : Nat), v = .ref t ∧ (t, ot) ∈ news ∧ ot.cls = .type "tuple" ∧ ot.data = .seq #[v₁, v₂] nt ∧
      ∀ I oI C oC D m₂ h tk (E' : Value → Shared → Prop), NsObj oC m₂ → m₂ x = some v₁ → m₂ x₂ = some v₂ → Fr h₀ L h m → News h₀ L h ((I, oI) :: (C, oC) :: (D, lst ys) :: news) → Off3 I C D news → ((@Ne Nat I C) ∧ (@Ne Nat I D) ∧ (@Ne Nat C D)) →
      wpAny (model prog w) A (eval elt (compEnvC scope cl C env)) (fun y s₂ => ∃ h' tk' news', s₂ = { s with heap := h', toks := tk' } ∧ Fr h₀ L h' m ∧ News h₀ L h' ((I, oI) :: (C, oC) :: (D, lst ys) :: news') ∧ Off3 I C D news' ∧ S news' ∧ Inv (i + 1) (ys ++ [y]) news') E' { s with heap := h, toks := tk }) :
    ∀ (k i : Nat) (ys : List Value) (news : List (Addr × Obj)), i + k = n → Inv i ys news → CompRestP prog w A h₀ L m env elt x x₂ scope cl s S P Fin k i ys news
  | 0, i, ys, news, hk, hi => .zero (fin ys news (by rw [show n = i by omega]; exact hi))
  | k + 1, i, ys, news, hk, hi => by
    refine .succ fun v hP => ?_
    obtain ⟨t, ot, v₁, v₂, nt, e1, e2, e3, e4, step⟩ := src i ys news v (by omega) hi hP
    refine ⟨t, ot, v₁, v₂, nt, e1, e2, e3, e4, fun I oI C oC D m₂ h tk E' hns hm hm2 F N off hne => ?_⟩
    refine wpAny_mono (step I oI C oC D m₂ h tk E' hns hm hm2 F N off hne) (fun y s₂ hq => ?_) fun _ _ e => e
    obtain ⟨h', tk', news', rfl, F', N', off', S', hi'⟩ := hq
    exact CompEnd.intro (s₁ := { s with heap := h, toks := tk }) F' N' news' (fun p hp => hp) off' S' (compInvP n Inv fin src k (i + 1) _ _ (by omega) hi')
end
end Mine

namespace Mine
noncomputable abbrev P1 : Program := PySem.Challenge.rw_tr0043_01.row.prog
noncomputable def fnBody : Stmt → List Stmt
  | .FunctionDef _ _ b _ _ _ _ _ _ _ => b
  | _ => []
noncomputable def fnArgs : Stmt → Arguments
  | .FunctionDef _ a _ _ _ _ _ _ _ _ => a
  | _ => ⟨[], [], none, [], [], none, []⟩
noncomputable def fnScope : Stmt → Scope
  | .FunctionDef _ _ _ _ _ _ s _ _ _ => s
  | _ => { kind := .function, names := [], isGenerator := false, isCoroutine := false, more := [] }
noncomputable def lexStmt : Stmt := PySem.Challenge.pw_tr0043_01.main.body.getD 58 (.Pass ⟨0, 0, 0, 0⟩)
noncomputable def readStmt : Stmt := (fnBody lexStmt).getD 1 (.Pass ⟨0, 0, 0, 0⟩)
noncomputable def readB0 : {x : List Stmt // x = fnBody readStmt} := by
  refine ⟨?x, ?h⟩
  case h => (conv => rhs; whnf); try exact rfl
noncomputable def readS0 : {x : Scope // x = fnScope readStmt} := by
  refine ⟨?x, ?h⟩
  case h => (conv => rhs; whnf); try exact rfl
noncomputable def readA0 : {x : Arguments // x = fnArgs readStmt} := by
  refine ⟨?x, ?h⟩
  case h => (conv => rhs; whnf); try exact rfl
noncomputable abbrev readB : List Stmt := readB0.1
noncomputable abbrev readS : Scope := readS0.1
noncomputable abbrev readA : Arguments := readA0.1
end Mine

local macro_rules | `(tactic| k_mem) => `(tactic| (first | with_reducible assumption | (refine List.mem_cons_of_mem _ ?_; k_mem)))
namespace Mine
set_option maxHeartbeats 8000000
theorem besideN {d b : Addr} {X o : Obj} {own rest : List (Addr × Obj)} (hne : X ≠ o) (h : (b, X) ∈ own ++ (d, o) :: rest) : (b, X) ∈ own ++ rest := by
  rcases List.mem_append.mp h with z | z
  · exact List.mem_append_left _ z
  · rcases List.mem_cons.mp z with z | z
    · exact absurd (Prod.mk.inj z).2 hne
    · exact List.mem_append_right _ z
theorem offApp {d : Addr} {own rest : List (Addr × Obj)} (h1 : ∀ p ∈ own, p.1 ≠ d) (h2 : ∀ p ∈ rest, p.1 ≠ d) : OwnOff (own ++ rest) [d] := fun p hp b hb => by
  rw [List.mem_singleton.mp hb]
  exact (List.mem_append.mp hp).elim (h1 p) (h2 p)
theorem newsFront {h₀ h : Heap} {L d : Addr} {o : Obj} {own rest : List (Addr × Obj)} (N : News h₀ L h (own ++ (d, o) :: rest)) : News h₀ L h ((d, o) :: (own ++ rest)) := fun p hp => N p (by
  rcases List.mem_cons.mp hp with rfl | hp
  · exact List.mem_append_right _ (.head _)
  · exact (List.mem_append.mp hp).elim (fun z => List.mem_append_left _ z) fun z => List.mem_append_right _ (.tail _ z))
theorem newsBack {h₀ h : Heap} {L d : Addr} {o : Obj} {own rest : List (Addr × Obj)} (N : News h₀ L h ((d, o) :: (own ++ rest))) : News h₀ L h (own ++ (d, o) :: rest) := fun p hp => N p (by
  rcases List.mem_append.mp hp with hp | hp
  · exact .tail _ (List.mem_append_left _ hp)
  · rcases List.mem_cons.mp hp with rfl | hp
    · exact .head _
    · exact .tail _ (List.mem_append_right _ hp))
theorem read_ok (w : World) (dp un : Nat) (gd : Option (List Code)) (cn : Str) (cs : Scope) (a : Addr) (ccd : Value) (cl : List (Str × Addr)) (outer : List Env) (A₀ : Around) (base h₀ : Heap) (L : Addr) (m : Str → Option Value) (s : Shared) (p : Program) (loose : List Str) (mean : ExcName → Option Value) (mg mb : Str → Option Value)
    (Q E : Value → Shared → Prop)
    (B : Below A₀ base outer h₀) (F : Fr h₀ L s.heap m) (X : (wPart w.params).In h₀) (T : Top p loose mean mg mb h₀) (hk : cs.kind = .function)
    (hcd : CodeHd base 116 112) (hd : dp + 10 < 1000) (hu : un + 100 < 9900)
  (R : List (Addr × Obj)) {fr cr cA cT at_ : Addr} {ocr oA oT : Obj} {vs : Array Value} {qual : Str} {tq : Tok} {doc pm ctv : Value} {text : Str} {tt : Tok} {pos : Int} {tp tc : Tok} {kk : Nat}
  (N : News h₀ L s.heap ((at_, W.listOf #[.int pos tp] kk) :: R))
  (h1 : (fr, fnMade "read" qual readA readB readS [("text", cT), ("at", cA)] doc pm cr ctv) ∈ R)
  (h2 : (cr, ocr) ∈ R) (h2d : ocr.data = .fields vs) (h2v : vs[1]? = some (.str qual tq))
  (h3 : (cA, oA) ∈ R) (h3d : oA.data = .cell (some (.ref at_)))
  (h4 : (cT, oT) ∈ R) (h4d : oT.data = .cell (some (.str text tt)))
  (hoff : OwnOff R [at_]) (hlen : text.length ≤ 10000) (hpos : 0 ≤ pos ∧ pos ≤ 20000)
  (ret : ∀ h' tk' u k' u2 i j j', i = pos → j = pos + 1 → j' = pos + 1 → Fr h₀ L h' m → News h₀ L h' ((at_, W.listOf #[.int j' u] k') :: R) → Q (.str (Txt.slice text (some i) (some j)) u2) { s with heap := h', toks := tk' }) :
    wpAny (model P1 w) (ktrTop dp un gd cn cs L a ccd cl outer) (call (.ref fr) [.int 1 tc]) Q E s := by
  dsimp only [readA, readB, readS, readA0, readB0, readS0] at h1
  refine wpAny_call ?_
  k_dflt (refine' code_nest ?k1 ?k2 ?k3 ?k4 ?k5 ?kA ?kF ?kK ?k6 ?k7 ?k8 ?k9 ?kB ?_ ?c2 ?c3 ?c4 ?c5; (case kA => exact rfl); (case kF => exact rfl); (case kK => assumption); (case k1 => k_asm); (case k2 => k_asm); (case k3 => k_asm); (case k4 => k_asm); (case k5 => k_asm); (case k6 => exact .tail _ h1); (case k7 => exact codeRec_news N (.tail _ h2) h2d h2v); (case k8 => show _ < 1000; dsimp only [ktrTop]; omega); (case k9 => exact BindsTo.of_eq rfl); (case c5 => decide); (case kB => exact locs rfl); (case c2 => exact rfl); (case c3 => exact rfl); (case c4 => exact rfl); k_whole; intro g' L' h' FG' F' N' B' X' T'; (try dsimp only))
  k_steps
  rename Fr h₀ _ _ _ => kF
  rename News h₀ _ _ _ => kN
  exact ret _ _ _ _ _ _ _ _ (by simp) (by simp) (by simp) kF kN

theorem read_okU (w : World) (dp un : Nat) (gd : Option (List Code)) (cn : Str) (cs : Scope) (a : Addr) (ccd : Value) (cl : List (Str × Addr)) (outer : List Env) (A₀ : Around) (base h₀ : Heap) (L : Addr) (m : Str → Option Value) (s : Shared) (p : Program) (loose : List Str) (mean : ExcName → Option Value) (mg mb : Str → Option Value)
    (Q E : Value → Shared → Prop)
    (B : Below A₀ base outer h₀) (F : Fr h₀ L s.heap m) (X : (wPart w.params).In h₀) (T : Top p loose mean mg mb h₀) (hk : cs.kind = .function)
    (hcd : CodeHd base 116 112) (hd : dp + 10 < 1000) (hu : un + 100 < 9900)
  {news : List (Addr × Obj)} {g : Obj → List (Addr × Obj)} {fr cr cA cT at_ : Addr} {ocr oA oT : Obj} {vs : Array Value} {qual : Str} {tq : Tok} {doc pm ctv : Value} {text : Str} {tt : Tok} {pos : Int} {tp tc : Tok} {kk : Nat}
  (N : News h₀ L s.heap news)
  (h1 : (fr, fnMade "read" qual readA readB readS [("text", cT), ("at", cA)] doc pm cr ctv) ∈ news)
  (h2 : (cr, ocr) ∈ news) (h2d : ocr.data = .fields vs) (h2v : vs[1]? = some (.str qual tq))
  (h3 : (cA, oA) ∈ news) (h3d : oA.data = .cell (some (.ref at_)))
  (h4 : (cT, oT) ∈ news) (h4d : oT.data = .cell (some (.str text tt)))
  (U : UpdF at_ (W.listOf #[.int pos tp] kk) news g)
  (hlen : text.length ≤ 10000) (hpos : 0 ≤ pos ∧ pos ≤ 20000)
  (ret : ∀ h' tk' u k' u2 i j j', i = pos → j = pos + 1 → j' = pos + 1 → Fr h₀ L h' m → News h₀ L h' (g (W.listOf #[.int j' u] k')) → Q (.str (Txt.slice text (some i) (some j)) u2) { s with heap := h', toks := tk' }) :
    wpAny (model P1 w) (ktrTop dp un gd cn cs L a ccd cl outer) (call (.ref fr) [.int 1 tc]) Q E s := by
  obtain ⟨own, rest, rfl, hg, a1, a2⟩ := U.split
  refine read_ok w dp un gd cn cs a ccd cl outer A₀ base h₀ L m s p loose mean mg mb Q E B F X T hk hcd hd hu (own ++ rest) (newsFront N) (besideN (fun e => by have z := congrArg Obj.data e; cases z) h1) (besideN (fun e => by rw [e] at h2d; cases h2d) h2) h2d h2v (besideN (fun e => by rw [e] at h3d; cases h3d) h3) h3d (besideN (fun e => by rw [e] at h4d; cases h4d) h4) h4d (offApp a1 a2) hlen hpos ?_
  intro h' tk' u k' u2 i j j' e1 e2 e3 F' N'
  exact ret h' tk' u k' u2 i j j' e1 e2 e3 F' (by rw [hg]; exact newsBack N')
end Mine

namespace Mine
set_option maxHeartbeats 8000000
noncomputable abbrev lexD (w : World) (n : Int) (tn : Tok) (st pb : Addr) (t1 t2 t3 t4 t5 : Tok) : Obj :=
  dictOf [⟨PyData.keyHash w.params "lineno", .str "lineno" t1, .int n tn⟩, ⟨PyData.keyHash w.params "instream", .str "instream" t2, .ref st⟩, ⟨PyData.keyHash w.params "whitespace", .str "whitespace" t3, .str "\n\t\r " t4⟩, ⟨PyData.keyHash w.params "pushback", .str "pushback" t5, .ref pb⟩] 4
/-- what of the lexer stands and never turns -/
noncomputable def LexIn (w : World) (R : List (Addr × Obj)) (lx dx st at_ : Addr) (text : Str) : Prop :=
  ∃ (sd fr cr cA cT : Addr) (ocr oA oT : Obj) (fdS : FuncData) (vs : Array Value) (qual : Str) (tq : Tok) (doc pm ctv : Value) (tk1 tt : Tok),
    (lx, instObj 103 dx) ∈ R ∧ (st, fnObj fdS (some sd)) ∈ R ∧ (sd, dictOf [⟨PyData.keyHash w.params "read", .str "read" tk1, .ref fr⟩] 1) ∈ R ∧
    (fr, fnMade "read" qual readA readB readS [("text", cT), ("at", cA)] doc pm cr ctv) ∈ R ∧ (cr, ocr) ∈ R ∧ ocr.data = .fields vs ∧ vs[1]? = some (.str qual tq) ∧
    (cA, oA) ∈ R ∧ oA.data = .cell (some (.ref at_)) ∧ (cT, oT) ∈ R ∧ oT.data = .cell (some (.str text tt))
theorem LexIn.mono {w : World} {R R' : List (Addr × Obj)} {lx dx st at_ : Addr} {text : Str} (h : LexIn w R lx dx st at_ text) (hs : ∀ p ∈ R, p ∈ R') : LexIn w R' lx dx st at_ text := by
  obtain ⟨sd, fr, cr, cA, cT, ocr, oA, oT, fdS, vs, qual, tq, doc, pm, ctv, tk1, tt, i1, i2, i3, h1, h2, h2d, h2v, h3, h3d, h4, h4d⟩ := h
  exact ⟨sd, fr, cr, cA, cT, ocr, oA, oT, fdS, vs, qual, tq, doc, pm, ctv, tk1, tt, hs _ i1, hs _ i2, hs _ i3, hs _ h1, hs _ h2, h2d, h2v, hs _ h3, h3d, hs _ h4, h4d⟩
local macro_rules | `(tactic| walk_at "getMethod ref") => `(tactic| (k_here; (with_reducible show wpAny _ _ (getMethod (Value.ref _) (PySem.Str.ofString "read") _) _ _ _); k_dflt (refine' getMethod_fn ?k1 ?k2 ?k3 ?_; (case k1 => exact News.get (by k_asm) (by k_mem)); (case k2 => exact News.get (by k_asm) (by k_mem)); (case k3 => k_get); k_whole)))
local macro_rules | `(tactic| walk_at "call ref") => `(tactic| (k_here; (with_reducible show wpAny _ _ (call (Value.ref _) [Value.int _ _]) _ _ _); k_dflt (refine' read_okU _ _ _ _ _ _ _ _ _ _ _ _ _ _ _ _ _ _ _ _ _ _ _ ?B ?F ?X ?T ?hk ?hcd ?hd ?hu ?N ?h1 ?h2 ?h2d ?h2v ?h3 ?h3d ?h4 ?h4d ?U ?hlen ?hpos ?_; (case B => k_asm); (case F => k_asm); (case X => k_asm); (case T => k_asm); (case hk => first | rfl | assumption); (case hcd => assumption); (case N => k_asm); (case h1 => k_mem); (case h2 => k_mem); (case h2d => assumption); (case h2v => assumption); (case h3 => k_mem); (case h3d => assumption); (case h4 => k_mem); (case h4d => assumption); (case U => k_updF); (case hlen => assumption); (case hpos => assumption); (case hd => show _ + 1 + 10 < 1000; dsimp only [ktrTop]; omega); (case hu => show _ + 3 + 100 < 9900; dsimp only [ktrTop]; omega); k_whole; intro h' tk' u' k' u2 i' j' jj' e1 e2 e3 F' N'; (try dsimp only at N'); (try k_sweep))))
theorem rdch_code (w : World) (dp un : Nat) (gd : Option (List Code)) (cn : Str) (cs : Scope) (a : Addr) (ccd : Value) (cl : List (Str × Addr)) (outer : List Env) (A₀ : Around) (base h₀ : Heap) (L : Addr) (m : Str → Option Value) (s : Shared) (p : Program) (loose : List Str) (mean : ExcName → Option Value) (mg mb : Str → Option Value)
    (Rr : Result → Shared → Prop)
    (B : Below A₀ base outer h₀) (F : Fr h₀ L s.heap m) (X : (wPart w.params).In h₀) (T : Top p loose mean mg mb h₀) (hk : cs.kind = .function)
    (hcd : CodeHd base 116 112) (hd : dp + 20 < 1000) (hu : un + 200 < 9900)
  (R : List (Addr × Obj)) {lx dx st at_ pb : Addr} {text : Str} {pos : Int} {tp : Tok} {kk : Nat} {n : Int} {tn t1 t2 t3 t4 t5 : Tok}
  (N : News h₀ L s.heap ((at_, W.listOf #[.int pos tp] kk) :: (dx, lexD w n tn st pb t1 t2 t3 t4 t5) :: R)) (LI : LexIn w R lx dx st at_ text)
  (ho1 : ∀ p ∈ R, p.1 ≠ at_) (ho2 : ∀ p ∈ R, p.1 ≠ dx) (hne : @Ne Nat at_ dx) (hlen : text.length ≤ 10000) (hpos : 0 ≤ pos ∧ pos ≤ 20000) (hn : 0 ≤ n ∧ n ≤ 30000)
  (ret : ∀ h' tk' u k' u2 n' tn' i j j', i = pos → j = pos + 1 → j' = pos + 1 → n ≤ n' → n' ≤ n + 1 → Fr h₀ L h' m → News h₀ L h' ((at_, W.listOf #[.int j' u] k') :: (dx, lexD w n' tn' st pb t1 t2 t3 t4 t5) :: R) → Rr (.ok (.ret (.str (Txt.slice text (some i) (some j)) u2))) { s with heap := h', toks := tk' }) :
    codeAny (model P1 w) (ktrTop dp un gd cn cs L a ccd cl outer) (.call (.ref 86) ⟨[.ref lx], []⟩) Rr s := by
  have hoff : OwnOff R [at_, dx] := fun p hp b hb => by
    rcases List.mem_cons.mp hb with rfl | hb
    · exact ho1 p hp
    · rw [List.mem_singleton.mp hb]; exact ho2 p hp
  obtain ⟨sd, fr, cr, cA, cT, ocr, oA, oT, fdS, vs, qual, tq, doc, pm, ctv, tk1, tt, i1, i2, i3, h1, h2, h2d, h2v, h3, h3d, h4, h4d⟩ := LI
  k_dflt (refine' code_def ?k1 ?k2 ?k3 ?k4 ?k5 ?kA ?kF ?kK ?k6 ?k7 ?k8 ?k9 ?kB ?_ ?c2 ?c3 ?c4 ?c5; (case kA => exact rfl); (case kF => exact rfl); (case kK => assumption); (case k1 => k_asm); (case k2 => k_asm); (case k3 => k_asm); (case k4 => k_asm); (case k5 => k_asm); (case k6 => k_is); (case k7 => k_is); (case k8 => show _ < 1000; dsimp only [ktrTop]; omega); (case k9 => exact BindsTo.of_eq rfl); (case c5 => decide); (case kB => exact locs rfl); (case c2 => exact rfl); (case c3 => exact rfl); (case c4 => exact rfl); k_whole; intro g' L' h' FG' F' N' B' X' T'; (try dsimp only))
  k_steps
  all_goals (rename Fr h₀ _ _ _ => kF; rename News h₀ _ _ _ => kN; exact ret _ _ _ _ _ _ _ _ _ _ (by assumption) (by assumption) (by assumption) (by omega) (by omega) kF kN)
end Mine

namespace Mine
noncomputable def clsBody : Stmt → List Stmt
  | .ClassDef _ _ _ b _ _ _ _ _ _ _ => b
  | _ => []
noncomputable def forBody : Stmt → List Stmt
  | .For _ _ b _ _ => b
  | _ => []
noncomputable def ifThen : Stmt → List Stmt
  | .If _ b _ _ => b
  | _ => []
noncomputable def ifElse : Stmt → List Stmt
  | .If _ _ b _ => b
  | _ => []
noncomputable def noStmt : Stmt := .Pass ⟨0, 0, 0, 0⟩
noncomputable def gtStmt : Stmt := (clsBody (PySem.Challenge.pw_tr0043_01.main.body.getD 7 noStmt)).getD 2 noStmt
noncomputable def outStmt : List Stmt := forBody ((fnBody gtStmt).getD 3 noStmt)
noncomputable def gtS0 : {x : Scope // x = fnScope gtStmt} := by
  refine ⟨?x, ?h⟩
  case h => (conv => rhs; whnf); try exact rfl
noncomputable def outB0 : {x : List Stmt // x = outStmt} := by
  refine ⟨?x, ?h⟩
  case h => (conv => rhs; whnf); try exact rfl
noncomputable def inQ0 : {x : List Stmt // x = forBody ((ifThen (outStmt.getD 1 noStmt)).getD 0 noStmt)} := by
  refine ⟨?x, ?h⟩
  case h => (conv => rhs; whnf); try exact rfl
noncomputable def inB0 : {x : List Stmt // x = forBody ((ifElse (outStmt.getD 1 noStmt)).getD 2 noStmt)} := by
  refine ⟨?x, ?h⟩
  case h => (conv => rhs; whnf); try exact rfl
noncomputable abbrev gtS : Scope := gtS0.1
noncomputable abbrev outB : List Stmt := outB0.1
noncomputable abbrev inQ : List Stmt := inQ0.1
noncomputable abbrev inB : List Stmt := inB0.1
noncomputable def mG (a b c d : Option Value) : Str → Option Value := fun y => if y = "self" then a else if y = "token" then b else if y = "fiter" then c else if y = "ch" then d else none
inductive QB : List Nat → List Nat → Prop
  | nil : QB [] []
  | esc {d : Nat} {w t : List Nat} : QB w t → QB (92 :: d :: w) (d :: t)
  | plain {c : Nat} {w t : List Nat} : c ≠ 34 → c ≠ 92 → QB w t → QB (c :: w) (c :: t)
noncomputable def isWs (c : Nat) : Prop := c = 10 ∨ c = 9 ∨ c = 13 ∨ c = 32
inductive BB : List Nat → List Nat → Prop
  | nil : BB [] []
  | esc {d : Nat} {w t : List Nat} : BB w t → BB (92 :: d :: w) (d :: t)
  | plain {c : Nat} {w t : List Nat} : ¬ isWs c → c ≠ 92 → BB w t → BB (c :: w) (c :: t)
/-- rem, the token read off it, what is left behind it -/
inductive Tok3 : List Nat → List Nat → List Nat → Prop
  | ws {c : Nat} {r t b : List Nat} : isWs c → Tok3 r t b → Tok3 (c :: r) t b
  | eof : Tok3 [] [] []
  | quoted {w t b : List Nat} : QB w t → Tok3 (34 :: (w ++ 34 :: b)) t b
  | escaped {d x : Nat} {w t b : List Nat} : BB w t → isWs x → Tok3 (92 :: d :: (w ++ x :: b)) (d :: t) b
  | bare {c x : Nat} {w t b : List Nat} : ¬ isWs c → c ≠ 34 → c ≠ 92 → BB w t → isWs x → Tok3 (c :: (w ++ x :: b)) (c :: t) b
noncomputable abbrev strOf (l : List Nat) : Str := ⟨l.toArray⟩
open PySem.StrLaws PySem.Builtin PySem.Builtin.Str in
theorem slice_at {T : List Nat} {x : Str} (hx : x.cps.toList = T) {pos : Nat} {c : Nat} {r : List Nat} (h : T.drop pos = c :: r) : Txt.slice x (some (pos : Int)) (some ((pos : Int) + 1)) = strOf [c] := by
  have hl : pos < T.length := by
    apply Nat.lt_of_not_le; intro hle; rw [List.drop_eq_nil_of_le hle] at h; cases h
  have e := sliceText_plain (x := x) (i := pos) (j := (pos : Int) + 1) ⟨by omega, by omega, by rw [hx]; omega⟩
  show sliceText x _ _ = _
  rw [e, hx]
  simp only [Int.toNat_natCast, h]
  have : ((pos : Int) + 1 - (pos : Int)).toNat = 1 := by omega
  rw [this]; rfl
open PySem.StrLaws PySem.Builtin PySem.Builtin.Str in
theorem slice_end {T : List Nat} {x : Str} (hx : x.cps.toList = T) {pos : Nat} (h : T.drop pos = []) : Txt.slice x (some (pos : Int)) (some ((pos : Int) + 1)) = strOf [] := by
  have hl : T.length ≤ pos := by
    apply Nat.le_of_not_lt; intro hlt
    have := congrArg List.length h
    rw [List.length_drop] at this; simp at this; omega
  have hn : x.length ≤ pos := by rw [← hx] at hl; simpa [Str.length] using hl
  have e : sliceText x (some (pos : Int)) (some ((pos : Int) + 1)) = sliceText x (some (x.length : Int)) (some (x.length : Int)) := by
    unfold sliceText
    have e1 : strSliceIndices (some (pos : Int)) (some ((pos : Int) + 1)) 1 x.length = strSliceIndices (some (x.length : Int)) (some (x.length : Int)) 1 x.length := by
      unfold strSliceIndices
      have a1 : ¬ ((pos : Int) < 0) := by omega
      have a2 : ¬ ((pos : Int) + 1 < 0) := by omega
      have a3 : ¬ ((x.length : Int) < 0) := by omega
      have b1 : max (0 : Int) (min (pos : Int) (x.length : Int)) = (x.length : Int) := by omega
      have b2 : max (0 : Int) (min ((pos : Int) + 1) (x.length : Int)) = (x.length : Int) := by omega
      have b3 : max (0 : Int) (min (x.length : Int) (x.length : Int)) = (x.length : Int) := by omega
      simp [a1, a2, a3, b1, b2, b3]
    rw [e1]
  show sliceText x _ _ = _
  rw [e, sliceText_nat x (Nat.le_refl _) (Nat.le_refl _)]
  simp
theorem drop_tail {T : List Nat} {pos : Nat} {c : Nat} {r : List Nat} (h : T.drop pos = c :: r) : T.drop (pos + 1) = r := by
  have : T.drop (pos + 1) = (T.drop pos).drop 1 := by rw [List.drop_drop]
  rw [this, h]; rfl
end Mine

namespace Mine
set_option maxHeartbeats 8000000
theorem ne_nil {c : Nat} {l : List Nat} : ¬ (strOf (c :: l) = "") := fun e => by
  have z := congrArg (fun x : Str => x.cps.size) e
  have y : (("" : Str).cps.size) = 0 := by decide +kernel
  simp only [y] at z
  simp at z
theorem beq_no {c : Nat} {k : Nat} {l : Str} (hl : l = strOf [k]) (h : c ≠ k) : (strOf [c] == l) = false := by
  subst hl
  refine beq_eq_false_iff_ne.mpr fun e => h ?_
  have z := congrArg (fun x : Str => x.cps.toList) e
  simpa using z
theorem beq_yes {k : Nat} {l : Str} (hl : l = strOf [k]) : (strOf [k] == l) = true := by subst hl; exact beq_self_eq_true _
theorem strOf_app {x y : List Nat} : strOf x ++ strOf y = strOf (x ++ y) := by
  apply Str.ext'
  rw [Str.cps_append]
  simp
theorem frEqv {h₀ h : Heap} {L : Addr} {m m' : Str → Option Value} (F : Fr h₀ L h m) (e : ∀ y, m y = m' y) : Fr h₀ L h m' := by
  have : m = m' := funext e
  exact this ▸ F
theorem kst : ("self" : Str) ≠ "token" := by decide +kernel
theorem ksf : ("self" : Str) ≠ "fiter" := by decide +kernel
theorem ksc : ("self" : Str) ≠ "ch" := by decide +kernel
theorem ktf : ("token" : Str) ≠ "fiter" := by decide +kernel
theorem ktc : ("token" : Str) ≠ "ch" := by decide +kernel
theorem kfc : ("fiter" : Str) ≠ "ch" := by decide +kernel
theorem mG_tc {a b c d v u : Option Value} (y : Str) : (if y = "token" then v else if y = "ch" then u else mG a b c d y) = mG a v c u y := by
  unfold mG
  by_cases h1 : y = "self"
  · subst h1; simp only [kst, ksc, ksf, if_true, if_false]
  by_cases h2 : y = "token"
  · subst h2; simp only [kst.symm, ktc, ktf, if_true, if_false]
  by_cases h3 : y = "fiter"
  · subst h3; simp only [ksf.symm, kfc, ktf.symm, if_true, if_false]
  by_cases h4 : y = "ch"
  · subst h4; simp only [ksc.symm, kfc.symm, ktc.symm, if_true, if_false]
  simp only [h1, h2, h3, h4, if_false]
theorem mG_c {a b c d u : Option Value} (y : Str) : (if y = "ch" then u else mG a b c d y) = mG a b c u y := by
  unfold mG
  by_cases h1 : y = "self"
  · subst h1; simp only [ksc, if_true, if_false]
  by_cases h2 : y = "token"
  · subst h2; simp only [kst.symm, ktc, if_true, if_false]
  by_cases h3 : y = "fiter"
  · subst h3; simp only [ksf.symm, kfc, ktf.symm, if_true, if_false]
  by_cases h4 : y = "ch"
  · subst h4; simp only [ksc.symm, kfc.symm, ktc.symm, if_true, if_false]
  simp only [h1, h2, h3, h4, if_false]
theorem mG_tcc {a b c d v u u' : Option Value} (y : Str) : (if y = "token" then v else if y = "ch" then u else if y = "ch" then u' else mG a b c d y) = mG a v c u y := by
  have e : (if y = "ch" then u else if y = "ch" then u' else mG a b c d y) = (if y = "ch" then u else mG a b c d y) := by
    by_cases h4 : y = "ch" <;> simp only [h4, if_true, if_false]
  rw [e]; exact mG_tc y
theorem ws_dec (c : Nat) [Decidable (isWs c)] : (!(Builtin.Str.occurrences (Str.ofString "\n\t\r ") (strOf [c]) 0 (Str.ofString "\n\t\r ").length 1).isEmpty) = decide (isWs c) := by
  rw [show strOf [c] = ⟨#[c]⟩ from rfl, StrLaws.found_one]
  have e : (Str.ofString "\n\t\r ").cps.toList = [10, 9, 13, 32] := by decide +kernel
  rw [e]
  refine decide_eq_decide.mpr ?_
  unfold isWs
  simp
theorem wsY {c : Nat} (h : isWs c) : (!(Builtin.Str.occurrences (Str.ofString "\n\t\r ") (strOf [c]) 0 (Str.ofString "\n\t\r ").length 1).isEmpty) = true := by haveI := Classical.propDecidable (isWs c); rw [ws_dec]; exact decide_eq_true h
theorem wsN {c : Nat} (h : ¬ isWs c) : (!(Builtin.Str.occurrences (Str.ofString "\n\t\r ") (strOf [c]) 0 (Str.ofString "\n\t\r ").length 1).isEmpty) = false := by haveI := Classical.propDecidable (isWs c); rw [ws_dec]; exact decide_eq_false h
end Mine

namespace Mine
set_option maxHeartbeats 8000000
local macro_rules | `(tactic| walk_at "zzpad0") => `(tactic| skip)
local macro_rules | `(tactic| walk_at "call ref") => `(tactic| (k_here; (try dsimp only [List.append_nil, List.cons_append, List.nil_append]); (with_reducible show wpAny _ _ (call (Value.ref 86) [Value.ref _]) _ _ _); k_dflt (refine' wpAny_call (rdch_code _ _ _ _ _ _ _ _ _ _ _ _ _ _ _ _ _ _ _ _ _ _ ?B ?F ?X ?T ?hk ?hcd ?hd ?hu _ ?N ?LI ?ho1 ?ho2 ?hne ?hlen ?hpos ?hn ?_); (case B => k_asm); (case F => k_asm); (case X => k_asm); (case T => k_asm); (case hk => first | rfl | assumption); (case hcd => assumption); (case N => k_asm); (case LI => exact LexIn.mono (by assumption) (fun _ hp9 => .tail _ (.tail _ hp9))); (case ho1 => k_all); (case ho2 => k_all); (case hne => assumption); (case hlen => assumption); (case hpos => omega); (case hn => omega); (case hd => show _ + 20 < 1000; (try dsimp only [ktrTop]); omega); (case hu => show _ + 200 < 9900; (try dsimp only [ktrTop]); omega); k_whole; intro h' tk' u' k' u2 n' tn' i' j' jj' e1 e2 e3 en1 en2 F' N'; (subst e1 e2 e3); (try dsimp only at N'); (try k_sweep))))
local macro_rules | `(tactic| walk_at "ite") => `(tactic| first | refine ite_neg (by rw [Bool.not_eq_true]; with_reducible assumption) ?_ | refine ite_pos (by with_reducible assumption) ?_)
/-- what the quoted loop does from any state -/
noncomputable def LoopQ (w : World) (dp un : Nat) (gd : Option (List Code)) (outer : List Env) (A₀ : Around) (base h₀ : Heap) (L : Addr) (p : Program) (loose : List Str) (mean : ExcName → Option Value) (mg mb : Str → Option Value) (lx it q dx st at_ pb : Addr) (tq t1 t2 t3 t4 t5 : Tok) (R : List (Addr × Obj)) (text : Str) (Tx b : List Nat) (px : Pos) (Rr : Result → Shared → Prop) (wd t : List Nat) : Prop :=
  ∀ (s : Shared) (tok : List Nat) (tt0 : Tok) (dch : Option Value) (pos : Nat) (tp : Tok) (kk : Nat) (n : Int) (tn : Tok),
  Fr h₀ L s.heap (mG (some (.ref lx)) (some (.str (strOf tok) tt0)) (some (.ref it)) dch) →
  News h₀ L s.heap ((at_, W.listOf #[.int pos tp] kk) :: (dx, lexD w n tn st pb t1 t2 t3 t4 t5) :: (it, citObj q tq) :: (q, methodObj (.ref 86) (.ref lx)) :: R) →
  0 ≤ n ∧ n ≤ pos + 1 → tok.length ≤ pos → Tx.drop pos = wd ++ 34 :: b →
  (∀ h' tk' u k' u2 n' tn' pos' dch', Tx.drop pos' = b → pos' ≤ Tx.length → 0 ≤ n' → n' ≤ (pos' : Int) + 1 → Fr h₀ L h' (mG (some (.ref lx)) (some (.str (strOf (tok ++ t)) u2)) (some (.ref it)) dch') → News h₀ L h' ((at_, W.listOf #[.int (pos' : Nat) u] k') :: (dx, lexD w n' tn' st pb t1 t2 t3 t4 t5) :: (it, citObj q tq) :: (q, methodObj (.ref 86) (.ref lx)) :: R) → Rr (.ok (.ret (.str (strOf (tok ++ t)) u2))) { s with heap := h', toks := tk' }) →
  codeAny (model P1 w) (ktrTop dp un gd "_netrclex.get_token" gtS L 93 (.ref 92) [] outer) (.forLoop (.Name "ch" px) (.ref it) inQ [] (envX "_netrclex.get_token" gtS L 93 (.ref 92) [])) Rr s

theorem loopQ (w : World) (dp un : Nat) (gd : Option (List Code)) (outer : List Env) (A₀ : Around) (base h₀ : Heap) (L : Addr) (p : Program) (loose : List Str) (mean : ExcName → Option Value) (mg mb : Str → Option Value) (lx it q dx st at_ pb : Addr) (tq t1 t2 t3 t4 t5 : Tok) (R : List (Addr × Obj)) (text : Str) (Tx b : List Nat) (px : Pos) (Rr : Result → Shared → Prop)
  (B : Below A₀ base outer h₀) (X : (wPart w.params).In h₀) (T : Top p loose mean mg mb h₀) (hcd : CodeHd base 116 112) (hd : dp + 30 < 1000) (hu : un + 300 < 9900) (LI : LexIn w R lx dx st at_ text)
  (hoff : OwnOff R [at_, dx]) (hne : @Ne Nat at_ dx) (hi1 : @Ne Nat it at_) (hi2 : @Ne Nat it dx) (hq1 : @Ne Nat q at_) (hq2 : @Ne Nat q dx) (hlen : text.length ≤ 10000) (hx : text.cps.toList = Tx)
  {wd t : List Nat} (hw : QB wd t) : LoopQ w dp un gd outer A₀ base h₀ L p loose mean mg mb lx it q dx st at_ pb tq t1 t2 t3 t4 t5 R text Tx b px Rr wd t := by
  have hTx : Tx.length ≤ 10000 := by rw [← hx]; simpa [Str.length] using hlen
  have i1 : (lx, instObj 103 dx) ∈ R := by obtain ⟨_, _, _, _, _, _, _, _, _, _, _, _, _, _, _, _, _, i1, _⟩ := LI; exact i1
  induction hw with
  | nil =>
    intro s tok tt0 dch pos tp kk n tn F N hn htk hr ret
    simp only [List.append_nil] at ret
    have hpl : pos < Tx.length := by
      apply Nat.lt_of_not_le; intro hle; rw [List.drop_eq_nil_of_le hle] at hr; cases hr
    have htl : (strOf tok).length ≤ 10000 := by show tok.toArray.size ≤ 10000; rw [List.size_toArray]; omega
    dsimp only [gtS, gtS0, inQ, inQ0]
    refine forLoop_turn ?_
    refine pyNext_cit rfl (News.get N (by k_mem)) (News.get N (by k_mem)) (X.keeps F.keep _ _ (by k_is)) rfl ?_
    refine rdch_code w _ _ _ _ _ _ _ _ _ _ _ _ _ _ _ _ _ _ _ _ _ B F X T rfl hcd (by show dp + 20 < 1000; omega) (by show un + 1 + 200 < 9900; omega) _ N (LI.mono fun _ hp9 => .tail _ (.tail _ hp9)) (by k_all) (by k_all) hne hlen (by omega) (by omega) ?_
    intro h1 tk1 u1 k1 u2 n1 tn1 i j j' e1 e2 e3 en1 en2 F1 N1
    subst e1 e2 e3
    refine ⟨_, _, rfl, News.get N1 (by k_mem), News.get N1 (by k_mem), X.keeps F1.keep _ _ (by k_is), ?_⟩
    rw [slice_at hx hr, if_neg ne_nil]
    dsimp only
    have a1 : (strOf [34] == Str.ofString "\"") = true := beq_yes (by decide +kernel)
    k_steps
    rename Fr h₀ _ _ _ => kF
    rename News h₀ _ _ _ => kN
    exact ret _ _ _ _ _ _ _ (pos + 1) _ (drop_tail hr) (by omega) (by omega) (by omega) (frEqv kF mG_c) kN
  | @esc d wd' t' hw' ih =>
    intro s tok tt0 dch pos tp kk n tn F N hn htk hr ret
    have hpl : pos + 1 < Tx.length := by
      apply Nat.lt_of_not_le; intro hle
      have := congrArg List.length hr
      rw [List.length_drop] at this; simp at this; omega
    have htl : (strOf tok).length ≤ 10000 := by show tok.toArray.size ≤ 10000; rw [List.size_toArray]; omega
    dsimp only [gtS, gtS0, inQ, inQ0]
    refine forLoop_turn ?_
    refine pyNext_cit rfl (News.get N (by k_mem)) (News.get N (by k_mem)) (X.keeps F.keep _ _ (by k_is)) rfl ?_
    refine rdch_code w _ _ _ _ _ _ _ _ _ _ _ _ _ _ _ _ _ _ _ _ _ B F X T rfl hcd (by show dp + 20 < 1000; omega) (by show un + 1 + 200 < 9900; omega) _ N (LI.mono fun _ hp9 => .tail _ (.tail _ hp9)) (by k_all) (by k_all) hne hlen (by omega) (by omega) ?_
    intro h1 tk1 u1 k1 u2 n1 tn1 i j j' e1 e2 e3 en1 en2 F1 N1
    subst e1 e2 e3
    refine ⟨_, _, rfl, News.get N1 (by k_mem), News.get N1 (by k_mem), X.keeps F1.keep _ _ (by k_is), ?_⟩
    rw [slice_at hx hr, if_neg ne_nil]
    dsimp only
    have a1 : (strOf [92] == Str.ofString "\"") = false := beq_no (k := 34) (by decide +kernel) (by decide)
    have a2 : (strOf [92] == Str.ofString "\\") = true := beq_yes (by decide +kernel)
    have a3 : (strOf [92]).length ≤ 1 := Nat.le_refl _
    have a4 : (strOf [d]).length ≤ 1 := Nat.le_refl _
    have hr2 := drop_tail hr
    have hsl : Txt.slice text (some ((pos : Int) + 1)) (some ((pos : Int) + 1 + 1)) = strOf [d] := by
      have := slice_at hx hr2
      simpa using this
    have hsl2 : (Txt.slice text (some ((pos : Int) + 1)) (some ((pos : Int) + 1 + 1))).length ≤ 1 := by rw [hsl]; exact Nat.le_refl _
    k_steps
    rename Fr h₀ _ _ _ => kF
    rename News h₀ _ _ _ => kN
    have kF' := frEqv kF mG_tcc
    rw [hsl, strOf_app] at kF'
    refine ih { s with heap := _, toks := _ } (tok ++ [d]) _ _ (pos + 1 + 1) _ _ _ _ kF' kN ⟨by omega, by omega⟩ (by simp; omega) (drop_tail hr2) ?_
    intro h' tk' u k' u2 n' tn' pos' dch' g1 g2 g3 g4 g5 g6
    have e : tok ++ [d] ++ t' = tok ++ d :: t' := by simp
    rw [e] at g5 ⊢
    exact ret h' tk' u k' u2 n' tn' pos' dch' g1 g2 g3 g4 g5 g6
  | @plain c wd' t' c1 c2 hw' ih =>
    intro s tok tt0 dch pos tp kk n tn F N hn htk hr ret
    have hpl : pos < Tx.length := by
      apply Nat.lt_of_not_le; intro hle; rw [List.drop_eq_nil_of_le hle] at hr; cases hr
    have htl : (strOf tok).length ≤ 10000 := by show tok.toArray.size ≤ 10000; rw [List.size_toArray]; omega
    dsimp only [gtS, gtS0, inQ, inQ0]
    refine forLoop_turn ?_
    refine pyNext_cit rfl (News.get N (by k_mem)) (News.get N (by k_mem)) (X.keeps F.keep _ _ (by k_is)) rfl ?_
    refine rdch_code w _ _ _ _ _ _ _ _ _ _ _ _ _ _ _ _ _ _ _ _ _ B F X T rfl hcd (by show dp + 20 < 1000; omega) (by show un + 1 + 200 < 9900; omega) _ N (LI.mono fun _ hp9 => .tail _ (.tail _ hp9)) (by k_all) (by k_all) hne hlen (by omega) (by omega) ?_
    intro h1 tk1 u1 k1 u2 n1 tn1 i j j' e1 e2 e3 en1 en2 F1 N1
    subst e1 e2 e3
    refine ⟨_, _, rfl, News.get N1 (by k_mem), News.get N1 (by k_mem), X.keeps F1.keep _ _ (by k_is), ?_⟩
    rw [slice_at hx hr, if_neg ne_nil]
    dsimp only
    have a1 : (strOf [c] == Str.ofString "\"") = false := beq_no (k := 34) (by decide +kernel) c1
    have a2 : (strOf [c] == Str.ofString "\\") = false := beq_no (k := 92) (by decide +kernel) c2
    have a3 : (strOf [c]).length ≤ 1 := Nat.le_refl _
    k_steps
    rename Fr h₀ _ _ _ => kF
    rename News h₀ _ _ _ => kN
    have kF' := frEqv kF mG_tc
    rw [strOf_app] at kF'
    refine ih { s with heap := _, toks := _ } (tok ++ [c]) _ _ (pos + 1) _ _ _ _ kF' kN ⟨by omega, by omega⟩ (by simp; omega) (drop_tail hr) ?_
    intro h' tk' u k' u2 n' tn' pos' dch' g1 g2 g3 g4 g5 g6
    have e : tok ++ [c] ++ t' = tok ++ c :: t' := by simp
    rw [e] at g5 ⊢
    exact ret h' tk' u k' u2 n' tn' pos' dch' g1 g2 g3 g4 g5 g6
end Mine

namespace Mine
set_option maxHeartbeats 8000000
local macro_rules | `(tactic| walk_at "call ref") => `(tactic| (k_here; (try dsimp only [List.append_nil, List.cons_append, List.nil_append]); (with_reducible show wpAny _ _ (call (Value.ref 86) [Value.ref _]) _ _ _); k_dflt (refine' wpAny_call (rdch_code _ _ _ _ _ _ _ _ _ _ _ _ _ _ _ _ _ _ _ _ _ _ ?B ?F ?X ?T ?hk ?hcd ?hd ?hu _ ?N ?LI ?ho1 ?ho2 ?hne ?hlen ?hpos ?hn ?_); (case B => k_asm); (case F => k_asm); (case X => k_asm); (case T => k_asm); (case hk => first | rfl | assumption); (case hcd => assumption); (case N => k_asm); (case LI => exact LexIn.mono (by assumption) (fun _ hp9 => .tail _ (.tail _ hp9))); (case ho1 => k_all); (case ho2 => k_all); (case hne => assumption); (case hlen => assumption); (case hpos => omega); (case hn => omega); (case hd => show _ + 20 < 1000; (try dsimp only [ktrTop]); omega); (case hu => show _ + 200 < 9900; (try dsimp only [ktrTop]); omega); k_whole; intro h' tk' u' k' u2 n' tn' i' j' jj' e1 e2 e3 en1 en2 F' N'; (subst e1 e2 e3); (try dsimp only at N'); (try k_sweep))))
local macro_rules | `(tactic| walk_at "ite") => `(tactic| first | refine ite_neg (by rw [Bool.not_eq_true]; with_reducible assumption) ?_ | refine ite_pos (by with_reducible assumption) ?_)
/-- what the quoted loop does from any state -/
noncomputable def LoopB (w : World) (dp un : Nat) (gd : Option (List Code)) (outer : List Env) (A₀ : Around) (base h₀ : Heap) (L : Addr) (p : Program) (loose : List Str) (mean : ExcName → Option Value) (mg mb : Str → Option Value) (lx it q dx st at_ pb : Addr) (tq t1 t2 t3 t4 t5 : Tok) (R : List (Addr × Obj)) (text : Str) (x : Nat) (Tx b : List Nat) (px : Pos) (Rr : Result → Shared → Prop) (wd t : List Nat) : Prop :=
  ∀ (s : Shared) (tok : List Nat) (tt0 : Tok) (dch : Option Value) (pos : Nat) (tp : Tok) (kk : Nat) (n : Int) (tn : Tok),
  Fr h₀ L s.heap (mG (some (.ref lx)) (some (.str (strOf tok) tt0)) (some (.ref it)) dch) →
  News h₀ L s.heap ((at_, W.listOf #[.int pos tp] kk) :: (dx, lexD w n tn st pb t1 t2 t3 t4 t5) :: (it, citObj q tq) :: (q, methodObj (.ref 86) (.ref lx)) :: R) →
  0 ≤ n ∧ n ≤ pos + 1 → tok.length ≤ pos → Tx.drop pos = wd ++ x :: b →
  (∀ h' tk' u k' u2 n' tn' pos' dch', Tx.drop pos' = b → pos' ≤ Tx.length → 0 ≤ n' → n' ≤ (pos' : Int) + 1 → Fr h₀ L h' (mG (some (.ref lx)) (some (.str (strOf (tok ++ t)) u2)) (some (.ref it)) dch') → News h₀ L h' ((at_, W.listOf #[.int (pos' : Nat) u] k') :: (dx, lexD w n' tn' st pb t1 t2 t3 t4 t5) :: (it, citObj q tq) :: (q, methodObj (.ref 86) (.ref lx)) :: R) → Rr (.ok (.ret (.str (strOf (tok ++ t)) u2))) { s with heap := h', toks := tk' }) →
  codeAny (model P1 w) (ktrTop dp un gd "_netrclex.get_token" gtS L 93 (.ref 92) [] outer) (.forLoop (.Name "ch" px) (.ref it) inB [] (envX "_netrclex.get_token" gtS L 93 (.ref 92) [])) Rr s

theorem loopB (w : World) (dp un : Nat) (gd : Option (List Code)) (outer : List Env) (A₀ : Around) (base h₀ : Heap) (L : Addr) (p : Program) (loose : List Str) (mean : ExcName → Option Value) (mg mb : Str → Option Value) (lx it q dx st at_ pb : Addr) (tq t1 t2 t3 t4 t5 : Tok) (R : List (Addr × Obj)) (text : Str) (x : Nat) (Tx b : List Nat) (px : Pos) (Rr : Result → Shared → Prop)
  (B : Below A₀ base outer h₀) (X : (wPart w.params).In h₀) (T : Top p loose mean mg mb h₀) (hcd : CodeHd base 116 112) (hd : dp + 30 < 1000) (hu : un + 300 < 9900) (LI : LexIn w R lx dx st at_ text)
  (hoff : OwnOff R [at_, dx]) (hne : @Ne Nat at_ dx) (hi1 : @Ne Nat it at_) (hi2 : @Ne Nat it dx) (hq1 : @Ne Nat q at_) (hq2 : @Ne Nat q dx) (hlen : text.length ≤ 10000) (hx : text.cps.toList = Tx) (hws : isWs x)
  {wd t : List Nat} (hw : BB wd t) : LoopB w dp un gd outer A₀ base h₀ L p loose mean mg mb lx it q dx st at_ pb tq t1 t2 t3 t4 t5 R text x Tx b px Rr wd t := by
  have hTx : Tx.length ≤ 10000 := by rw [← hx]; simpa [Str.length] using hlen
  have i1 : (lx, instObj 103 dx) ∈ R := by obtain ⟨_, _, _, _, _, _, _, _, _, _, _, _, _, _, _, _, _, i1, _⟩ := LI; exact i1
  induction hw with
  | nil =>
    intro s tok tt0 dch pos tp kk n tn F N hn htk hr ret
    simp only [List.append_nil] at ret
    have hpl : pos < Tx.length := by
      apply Nat.lt_of_not_le; intro hle; rw [List.drop_eq_nil_of_le hle] at hr; cases hr
    have htl : (strOf tok).length ≤ 10000 := by show tok.toArray.size ≤ 10000; rw [List.size_toArray]; omega
    dsimp only [gtS, gtS0, inB, inB0]
    refine forLoop_turn ?_
    refine pyNext_cit rfl (News.get N (by k_mem)) (News.get N (by k_mem)) (X.keeps F.keep _ _ (by k_is)) rfl ?_
    refine rdch_code w _ _ _ _ _ _ _ _ _ _ _ _ _ _ _ _ _ _ _ _ _ B F X T rfl hcd (by show dp + 20 < 1000; omega) (by show un + 1 + 200 < 9900; omega) _ N (LI.mono fun _ hp9 => .tail _ (.tail _ hp9)) (by k_all) (by k_all) hne hlen (by omega) (by omega) ?_
    intro h1 tk1 u1 k1 u2 n1 tn1 i j j' e1 e2 e3 en1 en2 F1 N1
    subst e1 e2 e3
    refine ⟨_, _, rfl, News.get N1 (by k_mem), News.get N1 (by k_mem), X.keeps F1.keep _ _ (by k_is), ?_⟩
    rw [slice_at hx hr, if_neg ne_nil]
    dsimp only
    have a1 := wsY hws
    k_steps
    rename Fr h₀ _ _ _ => kF
    rename News h₀ _ _ _ => kN
    exact ret _ _ _ _ _ _ _ (pos + 1) _ (drop_tail hr) (by omega) (by omega) (by omega) (frEqv kF mG_c) kN
  | @esc d wd' t' hw' ih =>
    intro s tok tt0 dch pos tp kk n tn F N hn htk hr ret
    have hpl : pos + 1 < Tx.length := by
      apply Nat.lt_of_not_le; intro hle
      have := congrArg List.length hr
      rw [List.length_drop] at this; simp at this; omega
    have htl : (strOf tok).length ≤ 10000 := by show tok.toArray.size ≤ 10000; rw [List.size_toArray]; omega
    dsimp only [gtS, gtS0, inB, inB0]
    refine forLoop_turn ?_
    refine pyNext_cit rfl (News.get N (by k_mem)) (News.get N (by k_mem)) (X.keeps F.keep _ _ (by k_is)) rfl ?_
    refine rdch_code w _ _ _ _ _ _ _ _ _ _ _ _ _ _ _ _ _ _ _ _ _ B F X T rfl hcd (by show dp + 20 < 1000; omega) (by show un + 1 + 200 < 9900; omega) _ N (LI.mono fun _ hp9 => .tail _ (.tail _ hp9)) (by k_all) (by k_all) hne hlen (by omega) (by omega) ?_
    intro h1 tk1 u1 k1 u2 n1 tn1 i j j' e1 e2 e3 en1 en2 F1 N1
    subst e1 e2 e3
    refine ⟨_, _, rfl, News.get N1 (by k_mem), News.get N1 (by k_mem), X.keeps F1.keep _ _ (by k_is), ?_⟩
    rw [slice_at hx hr, if_neg ne_nil]
    dsimp only
    have a1 := wsN (c := 92) (by unfold isWs; decide)
    have a2 : (strOf [92] == Str.ofString "\\") = true := beq_yes (by decide +kernel)
    have a3 : (strOf [92]).length ≤ 1 := Nat.le_refl _
    have a4 : (strOf [d]).length ≤ 1 := Nat.le_refl _
    have hr2 := drop_tail hr
    have hsl : Txt.slice text (some ((pos : Int) + 1)) (some ((pos : Int) + 1 + 1)) = strOf [d] := by
      have := slice_at hx hr2
      simpa using this
    have hsl2 : (Txt.slice text (some ((pos : Int) + 1)) (some ((pos : Int) + 1 + 1))).length ≤ 1 := by rw [hsl]; exact Nat.le_refl _
    k_steps
    rename Fr h₀ _ _ _ => kF
    rename News h₀ _ _ _ => kN
    have kF' := frEqv kF mG_tcc
    rw [hsl, strOf_app] at kF'
    refine ih { s with heap := _, toks := _ } (tok ++ [d]) _ _ (pos + 1 + 1) _ _ _ _ kF' kN ⟨by omega, by omega⟩ (by simp; omega) (drop_tail hr2) ?_
    intro h' tk' u k' u2 n' tn' pos' dch' g1 g2 g3 g4 g5 g6
    have e : tok ++ [d] ++ t' = tok ++ d :: t' := by simp
    rw [e] at g5 ⊢
    exact ret h' tk' u k' u2 n' tn' pos' dch' g1 g2 g3 g4 g5 g6
  | @plain c wd' t' c1 c2 hw' ih =>
    intro s tok tt0 dch pos tp kk n tn F N hn htk hr ret
    have hpl : pos < Tx.length := by
      apply Nat.lt_of_not_le; intro hle; rw [List.drop_eq_nil_of_le hle] at hr; cases hr
    have htl : (strOf tok).length ≤ 10000 := by show tok.toArray.size ≤ 10000; rw [List.size_toArray]; omega
    dsimp only [gtS, gtS0, inB, inB0]
    refine forLoop_turn ?_
    refine pyNext_cit rfl (News.get N (by k_mem)) (News.get N (by k_mem)) (X.keeps F.keep _ _ (by k_is)) rfl ?_
    refine rdch_code w _ _ _ _ _ _ _ _ _ _ _ _ _ _ _ _ _ _ _ _ _ B F X T rfl hcd (by show dp + 20 < 1000; omega) (by show un + 1 + 200 < 9900; omega) _ N (LI.mono fun _ hp9 => .tail _ (.tail _ hp9)) (by k_all) (by k_all) hne hlen (by omega) (by omega) ?_
    intro h1 tk1 u1 k1 u2 n1 tn1 i j j' e1 e2 e3 en1 en2 F1 N1
    subst e1 e2 e3
    refine ⟨_, _, rfl, News.get N1 (by k_mem), News.get N1 (by k_mem), X.keeps F1.keep _ _ (by k_is), ?_⟩
    rw [slice_at hx hr, if_neg ne_nil]
    dsimp only
    have a1 := wsN c1
    have a2 : (strOf [c] == Str.ofString "\\") = false := beq_no (k := 92) (by decide +kernel) c2
    have a3 : (strOf [c]).length ≤ 1 := Nat.le_refl _
    k_steps
    rename Fr h₀ _ _ _ => kF
    rename News h₀ _ _ _ => kN
    have kF' := frEqv kF mG_tc
    rw [strOf_app] at kF'
    refine ih { s with heap := _, toks := _ } (tok ++ [c]) _ _ (pos + 1) _ _ _ _ kF' kN ⟨by omega, by omega⟩ (by simp; omega) (drop_tail hr) ?_
    intro h' tk' u k' u2 n' tn' pos' dch' g1 g2 g3 g4 g5 g6
    have e : tok ++ [c] ++ t' = tok ++ c :: t' := by simp
    rw [e] at g5 ⊢
    exact ret h' tk' u k' u2 n' tn' pos' dch' g1 g2 g3 g4 g5 g6
end Mine

namespace Mine
set_option maxHeartbeats 8000000
local macro_rules | `(tactic| walk_at "zzpad0") => `(tactic| skip)
theorem extFr {h₀ h h' : Heap} {L it : Addr} {m : Str → Option Value} {o : Obj} {news : List (Addr × Obj)} (F : Fr h₀ L h m) (N : News h₀ L h news) (hi : (it, o) ∈ news) (e : Heap.ExtBut it h h') : Fr h₀ L h' m :=
  ⟨F.ns.extBut e (N _ hi).2.1.symm, fun b ob q => e b ob (fun z => by rw [z] at q; rw [(N _ hi).2.2] at q; cases q) (F.keep b ob q), F.above⟩
theorem extNews {h₀ h h' : Heap} {L it : Addr} {news : List (Addr × Obj)} (N : News h₀ L h news) (hn : ∀ p ∈ news, p.1 ≠ it) (e : Heap.ExtBut it h h') : News h₀ L h' news :=
  fun p hp => ⟨e _ _ (hn p hp) (N p hp).1, (N p hp).2⟩
local macro_rules | `(tactic| walk_at "call ref") => `(tactic| (k_here; (try dsimp only [List.append_nil, List.cons_append, List.nil_append]); (with_reducible show wpAny _ _ (call (Value.ref 86) [Value.ref _]) _ _ _); k_dflt (refine' wpAny_call (rdch_code _ _ _ _ _ _ _ _ _ _ _ _ _ _ _ _ _ _ _ _ _ _ ?B ?F ?X ?T ?hk ?hcd ?hd ?hu _ ?N ?LI ?ho1 ?ho2 ?hne ?hlen ?hpos ?hn ?_); (case B => k_asm); (case F => k_asm); (case X => k_asm); (case T => k_asm); (case hk => first | rfl | assumption); (case hcd => assumption); (case N => k_asm); (case LI => exact LexIn.mono (by assumption) (fun _ hp9 => .tail _ (.tail _ hp9))); (case ho1 => k_all); (case ho2 => k_all); (case hne => assumption); (case hlen => assumption); (case hpos => omega); (case hn => omega); (case hd => show _ + 20 < 1000; (try dsimp only [ktrTop]); omega); (case hu => show _ + 200 < 9900; (try dsimp only [ktrTop]); omega); k_whole; intro h' tk' u' k' u2 n' tn' i' j' jj' e1 e2 e3 en1 en2 F' N'; (subst e1 e2 e3); (try dsimp only at N'); (try k_sweep))))
local macro_rules | `(tactic| walk_at "ite") => `(tactic| first | refine ite_neg (by rw [Bool.not_eq_true]; with_reducible assumption) ?_ | refine ite_pos (by with_reducible assumption) ?_)

noncomputable def LoopO (w : World) (dp un : Nat) (gd : Option (List Code)) (outer : List Env) (A₀ : Around) (base h₀ : Heap) (L : Addr) (p : Program) (loose : List Str) (mean : ExcName → Option Value) (mg mb : Str → Option Value) (lx it q dx st at_ pb : Addr) (tq t1 t2 t3 t4 t5 : Tok) (R : List (Addr × Obj)) (text : Str) (Tx : List Nat) (px : Pos) (Rr : Result → Shared → Prop) (tt0 : Tok) (rem t b : List Nat) : Prop :=
  ∀ (s : Shared) (dch : Option Value) (pos : Nat) (tp : Tok) (kk : Nat) (n : Int) (tn : Tok),
  Fr h₀ L s.heap (mG (some (.ref lx)) (some (.str (strOf []) tt0)) (some (.ref it)) dch) →
  News h₀ L s.heap ((at_, W.listOf #[.int (pos : Nat) tp] kk) :: (dx, lexD w n tn st pb t1 t2 t3 t4 t5) :: (it, citObj q tq) :: (q, methodObj (.ref 86) (.ref lx)) :: R) →
  0 ≤ n ∧ n ≤ pos + 1 → Tx.drop pos = rem → pos ≤ Tx.length + 20 →
  (∀ h' tk' u k' n' tn' pos' dch', t = [] → Tx.drop pos' = b → pos' ≤ max pos Tx.length + 1 → 0 ≤ n' → n' ≤ (pos' : Int) + 1 → Fr h₀ L h' (mG (some (.ref lx)) (some (.str (strOf []) tt0)) (some (.ref it)) dch') → News h₀ L h' ((at_, W.listOf #[.int (pos' : Nat) u] k') :: (dx, lexD w n' tn' st pb t1 t2 t3 t4 t5) :: (q, methodObj (.ref 86) (.ref lx)) :: R) → Rr (.ok .next) { s with heap := h', toks := tk' }) →
  (∀ h' tk' u k' u2 n' tn' pos' dch', Tx.drop pos' = b → pos' ≤ Tx.length → 0 ≤ n' → n' ≤ (pos' : Int) + 1 → Fr h₀ L h' (mG (some (.ref lx)) (some (.str (strOf t) u2)) (some (.ref it)) dch') → News h₀ L h' ((at_, W.listOf #[.int (pos' : Nat) u] k') :: (dx, lexD w n' tn' st pb t1 t2 t3 t4 t5) :: (it, citObj q tq) :: (q, methodObj (.ref 86) (.ref lx)) :: R) → Rr (.ok (.ret (.str (strOf t) u2))) { s with heap := h', toks := tk' }) →
  codeAny (model P1 w) (ktrTop dp un gd "_netrclex.get_token" gtS L 93 (.ref 92) [] outer) (.forLoop (.Name "ch" px) (.ref it) outB [] (envX "_netrclex.get_token" gtS L 93 (.ref 92) [])) Rr s

theorem loopO (w : World) (dp un : Nat) (gd : Option (List Code)) (outer : List Env) (A₀ : Around) (base h₀ : Heap) (L : Addr) (p : Program) (loose : List Str) (mean : ExcName → Option Value) (mg mb : Str → Option Value) (lx it q dx st at_ pb : Addr) (tq t1 t2 t3 t4 t5 : Tok) (R : List (Addr × Obj)) (text : Str) (Tx : List Nat) (px : Pos) (Rr : Result → Shared → Prop) (tt0 : Tok)
  (B : Below A₀ base outer h₀) (X : (wPart w.params).In h₀) (T : Top p loose mean mg mb h₀) (hcd : CodeHd base 116 112) (hd : dp + 30 < 1000) (hu : un + 400 < 9900) (LI : LexIn w R lx dx st at_ text)
  (hoff : OwnOff R [at_, dx, it]) (hne : @Ne Nat at_ dx) (hi1 : @Ne Nat it at_) (hi2 : @Ne Nat it dx) (hq1 : @Ne Nat q at_) (hq2 : @Ne Nat q dx) (hq3 : @Ne Nat q it) (hlen : text.length ≤ 10000) (hx : text.cps.toList = Tx)
  {rem t b : List Nat} (hw : Tok3 rem t b) : LoopO w dp un gd outer A₀ base h₀ L p loose mean mg mb lx it q dx st at_ pb tq t1 t2 t3 t4 t5 R text Tx px Rr tt0 rem t b := by
  have hTx : Tx.length ≤ 10000 := by rw [← hx]; simpa [Str.length] using hlen
  have i1 : (lx, instObj 103 dx) ∈ R := by obtain ⟨_, _, _, _, _, _, _, _, _, _, _, _, _, _, _, _, _, i1, _⟩ := LI; exact i1
  have hoffD : OwnOff R [at_, dx] := fun p hp b hb => hoff p hp b (by
    rcases List.mem_cons.mp hb with rfl | hb
    · exact .head _
    · rw [List.mem_singleton.mp hb]; exact .tail _ (.head _))
  induction hw with
  | @ws c r t b c1 hw' ih =>
    intro s dch pos tp kk n tn F N hn hr hps rnext ret
    have hpl : pos < Tx.length := by
      apply Nat.lt_of_not_le; intro hle; rw [List.drop_eq_nil_of_le hle] at hr; cases hr
    dsimp only [gtS, gtS0, outB, outB0]
    refine forLoop_turn ?_
    refine pyNext_cit rfl (News.get N (by k_mem)) (News.get N (by k_mem)) (X.keeps F.keep _ _ (by k_is)) rfl ?_
    refine rdch_code w _ _ _ _ _ _ _ _ _ _ _ _ _ _ _ _ _ _ _ _ _ B F X T rfl hcd (by show dp + 20 < 1000; omega) (by show un + 1 + 200 < 9900; omega) _ N (LI.mono fun _ hp9 => .tail _ (.tail _ hp9)) (by k_all) (by k_all) hne hlen (by omega) (by omega) ?_
    intro h1 tk1 u1 k1 u2 n1 tn1 i j j' e1 e2 e3 en1 en2 F1 N1
    subst e1 e2 e3
    refine ⟨_, _, rfl, News.get N1 (by k_mem), News.get N1 (by k_mem), X.keeps F1.keep _ _ (by k_is), ?_⟩
    rw [slice_at hx hr, if_neg ne_nil]
    dsimp only
    have a1 := wsY c1
    k_steps
    rename Fr h₀ _ _ _ => kF
    rename News h₀ _ _ _ => kN
    refine ih { s with heap := _, toks := _ } _ (pos + 1) _ _ _ _ (frEqv kF mG_c) kN ⟨by omega, by omega⟩ (drop_tail hr) (by omega) ?_ ?_
    · intro h' tk' u k' n' tn' pos' dch' g0 g1 g2 g3 g4 g5 g6
      exact rnext h' tk' u k' n' tn' pos' dch' g0 g1 (by omega) g3 g4 g5 g6
    · exact ret
  | eof =>
    intro s dch pos tp kk n tn F N hn hr hps rnext ret
    dsimp only [gtS, gtS0, outB, outB0]
    refine forLoop_turn ?_
    refine pyNext_cit rfl (News.get N (by k_mem)) (News.get N (by k_mem)) (X.keeps F.keep _ _ (by k_is)) rfl ?_
    refine rdch_code w _ _ _ _ _ _ _ _ _ _ _ _ _ _ _ _ _ _ _ _ _ B F X T rfl hcd (by show dp + 20 < 1000; omega) (by show un + 1 + 200 < 9900; omega) _ N (LI.mono fun _ hp9 => .tail _ (.tail _ hp9)) (by k_all) (by k_all) hne hlen (by omega) (by omega) ?_
    intro h1 tk1 u1 k1 u2 n1 tn1 i j j' e1 e2 e3 en1 en2 F1 N1
    subst e1 e2 e3
    refine ⟨_, _, rfl, News.get N1 (by k_mem), News.get N1 (by k_mem), X.keeps F1.keep _ _ (by k_is), ?_⟩
    rw [slice_end hx hr, if_pos (by decide +kernel)]
    intro h' ex
    have F2 := extFr F1 N1 (by k_mem) ex
    have N2 : News h₀ L h' _ := extNews (it := it) (fun p hp => N1 p (show p ∈ (at_, _) :: (dx, _) :: (it, _) :: (q, _) :: R from by
      rcases List.mem_cons.mp hp with rfl | hp
      · exact .head _
      rcases List.mem_cons.mp hp with rfl | hp
      · exact .tail _ (.head _)
      exact .tail _ (.tail _ (.tail _ hp)))) (by clear hoffD; k_all) ex
    exact rnext h' _ _ _ _ _ (pos + 1) _ rfl (by have : Tx.drop (pos + 1) = (Tx.drop pos).drop 1 := by rw [List.drop_drop]
                                                 rw [this, hr]; rfl) (by omega) (by omega) (by omega) F2 N2
  | @quoted w' t b hw' =>
    intro s dch pos tp kk n tn F N hn hr hps rnext ret
    have hpl : pos < Tx.length := by
      apply Nat.lt_of_not_le; intro hle; rw [List.drop_eq_nil_of_le hle] at hr; cases hr
    dsimp only [gtS, gtS0, outB, outB0]
    refine forLoop_turn ?_
    refine pyNext_cit rfl (News.get N (by k_mem)) (News.get N (by k_mem)) (X.keeps F.keep _ _ (by k_is)) rfl ?_
    refine rdch_code w _ _ _ _ _ _ _ _ _ _ _ _ _ _ _ _ _ _ _ _ _ B F X T rfl hcd (by show dp + 20 < 1000; omega) (by show un + 1 + 200 < 9900; omega) _ N (LI.mono fun _ hp9 => .tail _ (.tail _ hp9)) (by k_all) (by k_all) hne hlen (by omega) (by omega) ?_
    intro h1 tk1 u1 k1 u2 n1 tn1 i j j' e1 e2 e3 en1 en2 F1 N1
    subst e1 e2 e3
    refine ⟨_, _, rfl, News.get N1 (by k_mem), News.get N1 (by k_mem), X.keeps F1.keep _ _ (by k_is), ?_⟩
    rw [slice_at hx hr, if_neg ne_nil]
    dsimp only
    have a1 := wsN (c := 34) (by unfold isWs; decide)
    have a2 : (strOf [34] == Str.ofString "\"") = true := beq_yes (by decide +kernel)
    k_steps
    refine wpAny_For ?_
    walk1
    rename Fr h₀ _ _ _ => kF
    rename News h₀ _ _ _ => kN
    refine pyIter_cit (News.get kN (by k_mem)) ?_
    refine loopQ w dp un gd outer A₀ base h₀ L p loose mean mg mb lx it q dx st at_ pb tq t1 t2 t3 t4 t5 R text Tx b _ _ B X T hcd hd (by omega) LI hoffD hne hi1 hi2 hq1 hq2 hlen hx hw' { s with heap := _, toks := _ } [] _ _ (pos + 1) _ _ _ _ (frEqv kF mG_c) kN ⟨by omega, by omega⟩ (by simp) (drop_tail hr) ?_
    intro h' tk' u k' u2 n' tn' pos' dch' g1 g2 g3 g4 g5 g6
    exact ret h' tk' u k' u2 n' tn' pos' dch' g1 g2 g3 g4 g5 g6
  | @escaped d x w' t b hw' hws =>
    intro s dch pos tp kk n tn F N hn hr hps rnext ret
    have hpl : pos < Tx.length := by
      apply Nat.lt_of_not_le; intro hle; rw [List.drop_eq_nil_of_le hle] at hr; cases hr
    dsimp only [gtS, gtS0, outB, outB0]
    refine forLoop_turn ?_
    refine pyNext_cit rfl (News.get N (by k_mem)) (News.get N (by k_mem)) (X.keeps F.keep _ _ (by k_is)) rfl ?_
    refine rdch_code w _ _ _ _ _ _ _ _ _ _ _ _ _ _ _ _ _ _ _ _ _ B F X T rfl hcd (by show dp + 20 < 1000; omega) (by show un + 1 + 200 < 9900; omega) _ N (LI.mono fun _ hp9 => .tail _ (.tail _ hp9)) (by k_all) (by k_all) hne hlen (by omega) (by omega) ?_
    intro h1 tk1 u1 k1 u2 n1 tn1 i j j' e1 e2 e3 en1 en2 F1 N1
    subst e1 e2 e3
    refine ⟨_, _, rfl, News.get N1 (by k_mem), News.get N1 (by k_mem), X.keeps F1.keep _ _ (by k_is), ?_⟩
    rw [slice_at hx hr, if_neg ne_nil]
    dsimp only
    have a1 := wsN (c := 92) (by unfold isWs; decide)
    have a2 : (strOf [92] == Str.ofString "\"") = false := beq_no (k := 34) (by decide +kernel) (by decide)
    have a3 : (strOf [92] == Str.ofString "\\") = true := beq_yes (by decide +kernel)
    have hr2 := drop_tail hr
    have hsl : Txt.slice text (some ((pos : Int) + 1)) (some ((pos : Int) + 1 + 1)) = strOf [d] := by
      have := slice_at hx hr2
      simpa using this
    have hsl2 : (Txt.slice text (some ((pos : Int) + 1)) (some ((pos : Int) + 1 + 1))).length ≤ 1 := by rw [hsl]; exact Nat.le_refl _
    have hpl2 : pos + 1 < Tx.length := by
      apply Nat.lt_of_not_le; intro hle; rw [List.drop_eq_nil_of_le hle] at hr2; cases hr2
    have htl : (strOf []).length ≤ 1 := Nat.zero_le _
    k_steps
    refine wpAny_For ?_
    walk1
    rename Fr h₀ _ _ _ => kF
    rename News h₀ _ _ _ => kN
    refine pyIter_cit (News.get kN (by k_mem)) ?_
    have kF' := frEqv kF mG_tcc
    rw [hsl, strOf_app] at kF'
    refine loopB w dp un gd outer A₀ base h₀ L p loose mean mg mb lx it q dx st at_ pb tq t1 t2 t3 t4 t5 R text x Tx b _ _ B X T hcd hd (by omega) LI hoffD hne hi1 hi2 hq1 hq2 hlen hx hws hw' { s with heap := _, toks := _ } [d] _ _ (pos + 1 + 1) _ _ _ _ kF' kN ⟨by omega, by omega⟩ (by simp) (drop_tail hr2) ?_
    intro h' tk' u k' u2 n' tn' pos' dch' g1 g2 g3 g4 g5 g6
    exact ret h' tk' u k' u2 n' tn' pos' dch' g1 g2 g3 g4 g5 g6
  | @bare c x w' t b c1 c2 c3 hw' hws =>
    intro s dch pos tp kk n tn F N hn hr hps rnext ret
    have hpl : pos < Tx.length := by
      apply Nat.lt_of_not_le; intro hle; rw [List.drop_eq_nil_of_le hle] at hr; cases hr
    dsimp only [gtS, gtS0, outB, outB0]
    refine forLoop_turn ?_
    refine pyNext_cit rfl (News.get N (by k_mem)) (News.get N (by k_mem)) (X.keeps F.keep _ _ (by k_is)) rfl ?_
    refine rdch_code w _ _ _ _ _ _ _ _ _ _ _ _ _ _ _ _ _ _ _ _ _ B F X T rfl hcd (by show dp + 20 < 1000; omega) (by show un + 1 + 200 < 9900; omega) _ N (LI.mono fun _ hp9 => .tail _ (.tail _ hp9)) (by k_all) (by k_all) hne hlen (by omega) (by omega) ?_
    intro h1 tk1 u1 k1 u2 n1 tn1 i j j' e1 e2 e3 en1 en2 F1 N1
    subst e1 e2 e3
    refine ⟨_, _, rfl, News.get N1 (by k_mem), News.get N1 (by k_mem), X.keeps F1.keep _ _ (by k_is), ?_⟩
    rw [slice_at hx hr, if_neg ne_nil]
    dsimp only
    have a1 := wsN c1
    have a2 : (strOf [c] == Str.ofString "\"") = false := beq_no (k := 34) (by decide +kernel) c2
    have a3 : (strOf [c] == Str.ofString "\\") = false := beq_no (k := 92) (by decide +kernel) c3
    have a4 : (strOf [c]).length ≤ 1 := Nat.le_refl _
    have htl : (strOf []).length ≤ 1 := Nat.zero_le _
    k_steps
    refine wpAny_For ?_
    walk1
    rename Fr h₀ _ _ _ => kF
    rename News h₀ _ _ _ => kN
    refine pyIter_cit (News.get kN (by k_mem)) ?_
    have kF' := frEqv kF mG_tc
    rw [strOf_app] at kF'
    refine loopB w dp un gd outer A₀ base h₀ L p loose mean mg mb lx it q dx st at_ pb tq t1 t2 t3 t4 t5 R text x Tx b _ _ B X T hcd hd (by omega) LI hoffD hne hi1 hi2 hq1 hq2 hlen hx hws hw' { s with heap := _, toks := _ } [c] _ _ (pos + 1) _ _ _ _ kF' kN ⟨by omega, by omega⟩ (by simp) (drop_tail hr) ?_
    intro h' tk' u k' u2 n' tn' pos' dch' g1 g2 g3 g4 g5 g6
    exact ret h' tk' u k' u2 n' tn' pos' dch' g1 g2 g3 g4 g5 g6
end Mine

namespace Mine
set_option maxHeartbeats 8000000
local macro_rules | `(tactic| walk_at "call ref") => `(tactic| (k_here; (try dsimp only [List.append_nil, List.cons_append, List.nil_append]); (with_reducible show wpAny _ _ (call (Value.ref 86) [Value.ref _]) _ _ _); k_dflt (refine' wpAny_call (rdch_code _ _ _ _ _ _ _ _ _ _ _ _ _ _ _ _ _ _ _ _ _ _ ?B ?F ?X ?T ?hk ?hcd ?hd ?hu _ ?N ?LI ?ho1 ?ho2 ?hne ?hlen ?hpos ?hn ?_); (case B => k_asm); (case F => k_asm); (case X => k_asm); (case T => k_asm); (case hk => first | rfl | assumption); (case hcd => assumption); (case N => k_asm); (case LI => exact LexIn.mono (by assumption) (fun _ hp9 => .tail _ (.tail _ hp9))); (case ho1 => k_all); (case ho2 => k_all); (case hne => assumption); (case hlen => assumption); (case hpos => omega); (case hn => omega); (case hd => show _ + 20 < 1000; (try dsimp only [ktrTop]); omega); (case hu => show _ + 200 < 9900; (try dsimp only [ktrTop]); omega); k_whole; intro h' tk' u' k' u2 n' tn' i' j' jj' e1 e2 e3 en1 en2 F' N'; (subst e1 e2 e3); (try dsimp only at N'); (try k_sweep))))
local macro_rules | `(tactic| walk_at "ite") => `(tactic| first | refine ite_neg (by rw [Bool.not_eq_true]; with_reducible assumption) ?_ | refine ite_pos (by with_reducible assumption) ?_)

theorem frCast {h₀ h : Heap} {L : Addr} {m m' : Str → Option Value} (F : Fr h₀ L h m) (e : m = m') : Fr h₀ L h m' := e ▸ F
theorem off3 {R : List (Addr × Obj)} {x y z : Addr} (h : OwnOff R [x, y]) (h2 : ∀ p ∈ R, p.1 ≠ z) : OwnOff R [x, y, z] := fun p hp b hb => by
  rcases List.mem_cons.mp hb with rfl | hb
  · exact h p hp _ (.head _)
  rcases List.mem_cons.mp hb with rfl | hb
  · exact h p hp _ (.tail _ (.head _))
  · rw [List.mem_singleton.mp hb]; exact h2 p hp
theorem offLt {d : Addr} {R : List (Addr × Obj)} (h : AllLt d R) : ∀ p ∈ R, p.1 ≠ d := fun p hp => Nat.ne_of_lt (ktn_ltOf h p hp)
theorem news4 {h₀ h : Heap} {L : Addr} {a b c d : Addr × Obj} {R : List (Addr × Obj)} (N : News h₀ L h (a :: b :: c :: d :: R)) : News h₀ L h (c :: d :: a :: b :: R) := fun p hp => N p (by
  simp only [List.mem_cons] at hp ⊢
  rcases hp with h | h | h | h | h <;> simp only [h, true_or, or_true])
theorem lkk {y : Str} {v : Value} : List.lookup y [(("self" : Str), v)] = if y = "self" then some v else none := by
    by_cases h : y = "self"
    · rw [if_pos h, List.lookup_cons, beq_iff_eq.mpr h]
    · rw [if_neg h, List.lookup_cons, beq_eq_false_iff_ne.mpr h]; rfl
theorem mG_start {b c : Option Value} {v : Value} (y : Str) : (if y = "fiter" then c else if y = "token" then b else List.lookup y [("self", v)]) = mG (some v) b c none y := by
  rw [lkk]
  unfold mG
  by_cases h1 : y = "self"
  · subst h1; simp only [kst, ksf, if_true, if_false]
  by_cases h2 : y = "token"
  · subst h2; simp only [kst.symm, ktf, if_true, if_false]
  by_cases h3 : y = "fiter"
  · subst h3; simp only [ksf.symm, ktf.symm, if_true, if_false]
  simp only [h1, h2, h3, if_false, ite_self]
local macro_rules | `(tactic| walk_at "call builtin:iter") => `(tactic| (k_here; (with_reducible show wpAny _ _ (call (Value.builtin "iter") [Value.ref _, Value.str _ _]) _ _ _); k_dflt (refine' call_iter2 ?k1 ?k2 ?k3 ?_; (case k1 => k_asm); (case k2 => k_asm); (case k3 => exact News.get (by k_asm) (by k_mem)); k_whole); intro it' h' F' N' l1; (try k_lt l1); (try k_sweep)))
local macro_rules | `(tactic| walk_at "truthy ref") => `(tactic| (k_here; (with_reducible show wpAny _ _ (truthy (Value.ref _)) _ _ _); k_dflt (refine' wpAny_truthy_list (News.isList ?N ?m) ?z ?_; (case N => k_asm); (case m => k_mem); (case z => decide)); (simp only [List.isEmpty_toArray, Array.isEmpty_empty, Bool.not_true, Bool.not_false])))
theorem gettok_code (w : World) (dp un : Nat) (gd : Option (List Code)) (cn : Str) (cs : Scope) (a : Addr) (ccd : Value) (cl : List (Str × Addr)) (outer : List Env) (A₀ : Around) (base h₀ : Heap) (L : Addr) (m : Str → Option Value) (s : Shared) (p : Program) (loose : List Str) (mean : ExcName → Option Value) (mg mb : Str → Option Value)
    (Rr : Result → Shared → Prop)
    (B : Below A₀ base outer h₀) (F : Fr h₀ L s.heap m) (X : (wPart w.params).In h₀) (T : Top p loose mean mg mb h₀) (hk : cs.kind = .function)
    (hcd : CodeHd base 116 112) (hd : dp + 40 < 1000) (hu : un + 500 < 9900)
  (R : List (Addr × Obj)) {lx dx st at_ pb : Addr} {text : Str} {Tx : List Nat} {pos : Nat} {tp : Tok} {kk kp : Nat} {n : Int} {tn t1 t2 t3 t4 t5 : Tok}
  (N : News h₀ L s.heap ((at_, W.listOf #[.int (pos : Nat) tp] kk) :: (dx, lexD w n tn st pb t1 t2 t3 t4 t5) :: R)) (LI : LexIn w R lx dx st at_ text) (hpb : (pb, W.listOf #[] kp) ∈ R)
  (ho1 : ∀ p ∈ R, p.1 ≠ at_) (ho2 : ∀ p ∈ R, p.1 ≠ dx) (hne : @Ne Nat at_ dx) (hlen : text.length ≤ 10000) (hx : text.cps.toList = Tx) (hn : 0 ≤ n ∧ n ≤ pos + 1) (hps : pos ≤ Tx.length + 20)
  {rem t b : List Nat} (hw : Tok3 rem t b) (hr : Tx.drop pos = rem)
  (ret : ∀ h' tk' u k' u2 n' tn' pos', Tx.drop pos' = b → pos' ≤ max pos Tx.length + 1 → 0 ≤ n' → n' ≤ (pos' : Int) + 1 → Fr h₀ L h' m → News h₀ L h' ((at_, W.listOf #[.int (pos' : Nat) u] k') :: (dx, lexD w n' tn' st pb t1 t2 t3 t4 t5) :: R) → Rr (.ok (.ret (.str (strOf t) u2))) { s with heap := h', toks := tk' }) :
    codeAny (model P1 w) (ktrTop dp un gd cn cs L a ccd cl outer) (.call (.ref 93) ⟨[.ref lx], []⟩) Rr s := by
  have hoff : OwnOff R [at_, dx] := fun p hp b hb => by
    rcases List.mem_cons.mp hb with rfl | hb
    · exact ho1 p hp
    · rw [List.mem_singleton.mp hb]; exact ho2 p hp
  have i1 : (lx, instObj 103 dx) ∈ R := by obtain ⟨_, _, _, _, _, _, _, _, _, _, _, _, _, _, _, _, _, i1, _⟩ := LI; exact i1
  k_dflt (refine' code_def ?k1 ?k2 ?k3 ?k4 ?k5 ?kA ?kF ?kK ?k6 ?k7 ?k8 ?k9 ?kB ?_ ?c2 ?c3 ?c4 ?c5; (case kA => exact rfl); (case kF => exact rfl); (case kK => assumption); (case k1 => k_asm); (case k2 => k_asm); (case k3 => k_asm); (case k4 => k_asm); (case k5 => k_asm); (case k6 => k_is); (case k7 => k_is); (case k8 => show _ < 1000; dsimp only [ktrTop]; omega); (case k9 => exact BindsTo.of_eq rfl); (case c5 => decide); (case kB => exact locs rfl); (case c2 => exact rfl); (case c3 => exact rfl); (case c4 => exact rfl); k_whole; intro g' L' h' FG' F' N' B' X' T'; (try dsimp only))
  have F2 : Fr g' L' h' (fun y => List.lookup y [(("self" : Str), Value.ref lx)]) := frCast F' (by kernel_rfl)
  clear F'
  k_steps
  refine wpAny_For ?_
  walk1
  rename Fr g' _ _ _ => kF
  rename News g' _ _ _ => kN
  rename _ < _ ∧ _ < _ ∧ _ < _ ∧ AllLt _ R => l3
  rename _ < _ ∧ _ < _ ∧ AllLt _ R => l2
  refine pyIter_cit (News.get kN (by k_mem)) ?_
  have e0 : (Str.ofString "") = strOf [] := by decide +kernel
  rw [e0] at kF
  refine loopO w _ _ _ _ _ _ _ _ _ _ _ _ _ _ _ _ dx st at_ pb _ t1 t2 t3 t4 t5 R text Tx _ _ _ B' X' T' hcd (by show dp + 1 + 30 < 1000; omega) (by show un + 3 + 400 < 9900; omega) LI (off3 hoff (offLt l3.2.2.2)) hne (by omega) (by omega) (by omega) (by omega) (by omega) hlen hx hw { s with heap := _, toks := _ } _ pos _ _ _ _ (frEqv kF mG_start) (news4 kN) hn hr hps ?_ ?_
  · intro h' tk' u k' n' tn' pos' dch' g0 g1 g2 g3 g4 g5 g6
    dsimp only
    k_steps
    rename Fr h₀ _ _ _ => zF
    rename News h₀ _ _ _ => zN
    subst g0
    exact ret h' tk' u k' _ n' tn' pos' g1 g2 g3 g4 zF (fun p hp => zN p (by
      simp only [List.mem_cons] at hp ⊢
      rcases hp with h | h | h <;> simp only [h, true_or, or_true]))
  · intro h' tk' u k' u2 n' tn' pos' dch' g1 g2 g3 g4 g5 g6
    dsimp only
    k_steps
    rename Fr h₀ _ _ _ => zF
    rename News h₀ _ _ _ => zN
    exact ret h' tk' u k' u2 n' tn' pos' g1 (by omega) g3 g4 zF (fun p hp => zN p (by
      simp only [List.mem_cons] at hp ⊢
      rcases hp with h | h | h <;> simp only [h, true_or, or_true]))
end Mine

namespace Mine
set_option maxHeartbeats 8000000
local macro_rules | `(tactic| walk_at "truthy ref") => `(tactic| (k_here; (with_reducible show wpAny _ _ (truthy (Value.ref _)) _ _ _); k_dflt (refine' wpAny_truthy_list (News.isList ?N ?m) ?z ?_; (case N => k_asm); (case m => exact .head _); (case z => simp only [List.size_toArray, List.length_cons]; omega)); (simp only [List.isEmpty_toArray, List.isEmpty_cons, Bool.not_true, Bool.not_false])))
theorem getpop_code (w : World) (dp un : Nat) (gd : Option (List Code)) (cn : Str) (cs : Scope) (a : Addr) (ccd : Value) (cl : List (Str × Addr)) (outer : List Env) (A₀ : Around) (base h₀ : Heap) (L : Addr) (m : Str → Option Value) (s : Shared) (p : Program) (loose : List Str) (mean : ExcName → Option Value) (mg mb : Str → Option Value)
    (Rr : Result → Shared → Prop)
    (B : Below A₀ base outer h₀) (F : Fr h₀ L s.heap m) (X : (wPart w.params).In h₀) (T : Top p loose mean mg mb h₀) (hk : cs.kind = .function)
    (hcd : CodeHd base 116 112) (hd : dp + 40 < 1000) (hu : un + 500 < 9900)
  (R : List (Addr × Obj)) {lx dx st pb : Addr} {x : Str} {tx : Tok} {vs : List Value} {kp : Nat} {n : Int} {tn t1 t2 t3 t4 t5 : Tok}
  (N : News h₀ L s.heap ((pb, W.listOf (Value.str x tx :: vs).toArray kp) :: R)) (i1 : (lx, instObj 103 dx) ∈ R) (i2 : (dx, lexD w n tn st pb t1 t2 t3 t4 t5) ∈ R)
  (hoff : OwnOff R [pb]) (hvs : vs.length ≤ 100)
  (ret : ∀ h' tk' k', Fr h₀ L h' m → News h₀ L h' ((pb, W.listOf vs.toArray k') :: R) → Rr (.ok (.ret (.str x tx))) { s with heap := h', toks := tk' }) :
    codeAny (model P1 w) (ktrTop dp un gd cn cs L a ccd cl outer) (.call (.ref 93) ⟨[.ref lx], []⟩) Rr s := by
  k_dflt (refine' code_def ?k1 ?k2 ?k3 ?k4 ?k5 ?kA ?kF ?kK ?k6 ?k7 ?k8 ?k9 ?kB ?_ ?c2 ?c3 ?c4 ?c5; (case kA => exact rfl); (case kF => exact rfl); (case kK => assumption); (case k1 => k_asm); (case k2 => k_asm); (case k3 => k_asm); (case k4 => k_asm); (case k5 => k_asm); (case k6 => k_is); (case k7 => k_is); (case k8 => show _ < 1000; dsimp only [ktrTop]; omega); (case k9 => exact BindsTo.of_eq rfl); (case c5 => decide); (case kB => exact locs rfl); (case c2 => exact rfl); (case c3 => exact rfl); (case c4 => exact rfl); k_whole; intro g' L' h' FG' F' N' B' X' T'; (try dsimp only))
  k_steps
  rename Fr g' L' h' _ => kF'
  refine kl_popAt (p := []) (q := vs) (k := 0) kF' N' rfl ?_ rfl (.head fun p hp => hoff p hp pb (.head _)) ?_ ?_
  · refine PySem.seqIndex_of (Int.le_refl 0) ?_
    simp only [List.size_toArray, List.length_cons]
    omega
  · refine Nat.le_trans (m := 101) ?_ (Nat.le_of_ble_eq_true rfl)
    simp only [List.length_cons]
    omega
  · intro h'' F'' N''
    simp only [List.nil_append] at N''
    k_steps
    rename Fr h₀ _ _ _ => kF; rename News h₀ _ _ _ => kN
    exact ret _ _ _ kF kN
theorem push_code (w : World) (dp un : Nat) (gd : Option (List Code)) (cn : Str) (cs : Scope) (a : Addr) (ccd : Value) (cl : List (Str × Addr)) (outer : List Env) (A₀ : Around) (base h₀ : Heap) (L : Addr) (m : Str → Option Value) (s : Shared) (p : Program) (loose : List Str) (mean : ExcName → Option Value) (mg mb : Str → Option Value)
    (Rr : Result → Shared → Prop)
    (B : Below A₀ base outer h₀) (F : Fr h₀ L s.heap m) (X : (wPart w.params).In h₀) (T : Top p loose mean mg mb h₀) (hk : cs.kind = .function)
    (hcd : CodeHd base 116 112) (hd : dp + 40 < 1000) (hu : un + 500 < 9900)
  (R : List (Addr × Obj)) {lx dx st pb : Addr} {x : Str} {tx : Tok} {vs : List Value} {kp : Nat} {n : Int} {tn t1 t2 t3 t4 t5 : Tok}
  (N : News h₀ L s.heap ((pb, W.listOf vs.toArray kp) :: R)) (i1 : (lx, instObj 103 dx) ∈ R) (i2 : (dx, lexD w n tn st pb t1 t2 t3 t4 t5) ∈ R)
  (hoff : OwnOff R [pb]) (hvs : vs.length ≤ 100)
  (ret : ∀ h' tk' k', Fr h₀ L h' m → News h₀ L h' ((pb, W.listOf (vs ++ [Value.str x tx]).toArray k') :: R) → Rr (.ok (.ret .none)) { s with heap := h', toks := tk' }) :
    codeAny (model P1 w) (ktrTop dp un gd cn cs L a ccd cl outer) (.call (.ref 100) ⟨[.ref lx, .str x tx], []⟩) Rr s := by
  k_dflt (refine' code_def ?k1 ?k2 ?k3 ?k4 ?k5 ?kA ?kF ?kK ?k6 ?k7 ?k8 ?k9 ?kB ?_ ?c2 ?c3 ?c4 ?c5; (case kA => exact rfl); (case kF => exact rfl); (case kK => assumption); (case k1 => k_asm); (case k2 => k_asm); (case k3 => k_asm); (case k4 => k_asm); (case k5 => k_asm); (case k6 => k_is); (case k7 => k_is); (case k8 => show _ < 1000; dsimp only [ktrTop]; omega); (case k9 => exact BindsTo.of_eq rfl); (case c5 => decide); (case kB => exact locs rfl); (case c2 => exact rfl); (case c3 => exact rfl); (case c4 => exact rfl); k_whole; intro g' L' h' FG' F' N' B' X' T'; (try dsimp only))
  k_steps
  rename Fr h₀ _ _ _ => kF; rename News h₀ _ _ _ => kN
  refine ret _ _ (kp + 1) kF ?_
  rw [show (vs ++ [Value.str x tx]).toArray = vs.toArray.push (Value.str x tx) by simp]
  exact kN
end Mine

namespace Mine
set_option maxHeartbeats 8000000
theorem allLt_ne {d : Addr} : ∀ {R : List (Addr × Obj)} {b : Addr}, AllLt d R → @LE.le Nat _ d b → ∀ p ∈ R, p.1 ≠ b
  | [], _, _, _, _, h => nomatch h
  | q :: r, b, h, hb, p, hp => by
    rcases List.mem_cons.mp hp with rfl | hp
    · exact Nat.ne_of_lt (Nat.lt_of_lt_of_le h.1 hb)
    · exact allLt_ne h.2 hb p hp
theorem newsLex {h₀ h : Heap} {L : Addr} {p1 p2 p3 p4 p5 p6 p7 p8 p9 p10 p11 p12 : Addr × Obj} {R : List (Addr × Obj)} (N : News h₀ L h (p1 :: p2 :: p3 :: p4 :: p5 :: p6 :: p7 :: p8 :: p9 :: p10 :: p11 :: p12 :: R)) :
    News h₀ L h (p9 :: p3 :: p1 :: ([p2, p4, p5, p6, p7, p8, p10, p11, p12] ++ R)) := fun p hp => N p (by
  simp only [List.mem_cons, List.mem_append, List.not_mem_nil, or_false] at hp ⊢
  rcases hp with h | h | h | (h | h | h | h | h | h | h | h | h) | h <;> simp only [h, true_or, or_true])
theorem off3b {R : List (Addr × Obj)} {x y z : Addr} (h0 : ∀ p ∈ R, p.1 ≠ x) (h1 : ∀ p ∈ R, p.1 ≠ y) (h2 : ∀ p ∈ R, p.1 ≠ z) : OwnOff R [x, y, z] := by
  intro p hp b hb
  rcases List.mem_cons.mp hb with rfl | hb
  · exact h0 p hp
  rcases List.mem_cons.mp hb with rfl | hb
  · exact h1 p hp
  · rw [List.mem_singleton.mp hb]; exact h2 p hp
theorem lexMk {w : World} {sd fr cr cA cT lx dx st at_ c : Addr} {ocr oA oT oc : Obj} {fdS : FuncData} {vs : Array Value} {qual : Str} {tq : Tok} {doc pm ctv : Value} {text : Str} {tk1 tt : Tok} {p : Addr × Obj} {R : List (Addr × Obj)}
    (h2d : ocr.data = .fields vs) (h2v : vs[1]? = some (.str qual tq)) (h3d : oA.data = .cell (some (.ref at_))) (h4d : oT.data = .cell (some (.str text tt))) :
    LexIn w ([(lx, instObj 103 dx), (sd, dictOf [⟨PyData.keyHash w.params "read", .str "read" tk1, .ref fr⟩] 1), (st, fnObj fdS (some sd)), (c, oc), (fr, fnMade "read" qual readA readB readS [("text", cT), ("at", cA)] doc pm cr ctv), (cr, ocr), (cA, oA), (cT, oT), p] ++ R) lx dx st at_ text := by
  refine ⟨sd, fr, cr, cA, cT, ocr, oA, oT, fdS, vs, qual, tq, doc, pm, ctv, tk1, tt, ?_, ?_, ?_, ?_, ?_, h2d, h2v, ?_, h3d, ?_, h4d⟩ <;> simp only [List.mem_append, List.mem_cons, true_or, or_true]
end Mine

local macro_rules | `(tactic| k_room) => `(tactic| ((try simp only [depth_mark, depth_under_make, depth_under_kw, depth_in1, depth_deeper, depth_caller]); (show _ < 1000); (try dsimp only [ktrTop]); omega))
namespace Mine
set_option maxHeartbeats 8000000
local macro_rules | `(tactic| walk_at "ite") => `(tactic| first | refine ite_neg (by rw [Bool.not_eq_true]; with_reducible assumption) ?_ | refine ite_pos (by with_reducible assumption) ?_ | refine ite_neg (by omega) ?_ | refine ite_pos (by omega) ?_)
local macro_rules | `(tactic| walk_at "subscriptTail") => `(tactic| (k_here; (with_reducible show wpAny _ _ (subscriptTail _ _ (Value.str _ _) (Value.int _ _)) _ _ _); (refine KXi.item rfl ?k1 ?k2 ?k3 ?_; (case k1 => omega); (case k2 => omega); (case k3 => omega)); intro kxiE))
theorem p229_code (w : World) (dp un : Nat) (gd : Option (List Code)) (cn : Str) (cs : Scope) (a : Addr) (ccd : Value) (cl : List (Str × Addr)) (outer : List Env) (A₀ : Around) (base h₀ : Heap) (L : Addr) (m : Str → Option Value) (s : Shared) (p : Program) (loose : List Str) (mean : ExcName → Option Value) (mg mb : Str → Option Value)
    (Rr : Result → Shared → Prop)
    (B : Below A₀ base outer h₀) (F : Fr h₀ L s.heap m) (X : (wPart w.params).In h₀) (T : Top p loose mean mg mb h₀) (hk : cs.kind = .function)
    (hcd : CodeHd base 116 112) (hd : dp + 40 < 1000) (hu : un + 500 < 9900)
  (R : List (Addr × Obj)) {resp : Str} {tr tk0 tk1 : Tok} {pr : Addr} {k0 : Int} (N : News h₀ L s.heap R) (ip : (pr, ({ cls := .type "tuple", data := .seq #[.int k0 tk0, .int 21 tk1] } : Obj)) ∈ R) (hlen : resp.length ≤ 100) (hle2 : 10 ≤ resp.length)
  (e1 : (Txt.slice resp none (some 3) != Str.ofString "229") = false) (e2 : Txt.find resp (Str.ofString "(") = 4) {rt : Int} (e3 : Txt.find3 resp (Str.ofString ")") (Txt.find resp (Str.ofString "(") + 1) = rt) (hr1 : 6 ≤ rt) (hr2 : rt < resp.length)
  (e4 : (Txt.item resp (Txt.find resp (Str.ofString "(") + 1) != Txt.item resp (Txt.find3 resp (Str.ofString ")") (Txt.find resp (Str.ofString "(") + 1) - 1)) = false) {parts : List Str} {dg : Str} {port : Int}
  (e5 : Txt.split (Txt.slice resp (some (Txt.find resp (Str.ofString "(") + 1)) (some (Txt.find3 resp (Str.ofString ")") (Txt.find resp (Str.ofString "(") + 1)))) (Txt.item resp (Txt.find resp (Str.ofString "(") + 1)) = parts) (e6 : parts.length = 5) (e7 : parts[3]? = some dg) (e8 : PySem.intText? dg = some port) (e9 : dg.length ≤ 100)
  (ret : ∀ h' tk' o tk1 tk2, AllLt o R → Fr h₀ L h' m → News h₀ L h' ((o, ({ cls := .type "tuple", data := .seq #[.int k0 tk1, .int port tk2] } : Obj)) :: R) → Rr (.ok (.ret (.ref o))) { s with heap := h', toks := tk' }) :
    codeAny (model P1 w) (ktrTop dp un gd cn cs L a ccd cl outer) (.call (.ref 58) ⟨[.str resp tr, .ref pr], []⟩) Rr s := by
  k_dflt (refine' code_def ?k1 ?k2 ?k3 ?k4 ?k5 ?kA ?kF ?kK ?k6 ?k7 ?k8 ?k9 ?kB ?_ ?c2 ?c3 ?c4 ?c5; (case kA => exact rfl); (case kF => exact rfl); (case kK => assumption); (case k1 => k_asm); (case k2 => k_asm); (case k3 => k_asm); (case k4 => k_asm); (case k5 => k_asm); (case k6 => k_is); (case k7 => k_is); (case k8 => show _ < 1000; dsimp only [ktrTop]; omega); (case k9 => exact BindsTo.of_eq rfl); (case c5 => decide); (case kB => exact locs rfl); (case c2 => exact rfl); (case c3 => exact rfl); (case c4 => exact rfl); k_whole; intro g' L' h' FG' F' N' B' X' T'; (try dsimp only))
  k_steps
  · exfalso
    rename List.map _ _ = Txt.split _ _ => hs
    rw [e5] at hs
    have z := congrArg List.length hs
    simp only [List.length_map, e6] at z
    omega
  · rename List.map _ _ = Txt.split _ _ => hs
    rename (List.map _ _)[_]? = some _ => hy
    rw [hs, e5] at hy
    have hy2 := Option.some.inj (e7.symm.trans hy)
    subst hy2
    refine KIN.call_text e8 (by omega) ?_
    k_steps
    rename Fr h₀ _ _ _ => kF; rename News h₀ _ _ _ => kN; rename _ ∧ AllLt _ _ => l1
    exact ret _ _ _ _ _ l1.2 kF (fun p hp => kN p (by rcases List.mem_cons.mp hp with rfl | hp; exact .head _; exact .tail _ (.tail _ hp)))
end Mine

namespace Mine
set_option maxHeartbeats 8000000
theorem capped_code (w : World) (dp un : Nat) (gd : Option (List Code)) (cn : Str) (cs : Scope) (a : Addr) (ccd : Value) (cl : List (Str × Addr)) (outer : List Env) (A₀ : Around) (base h₀ : Heap) (L : Addr) (m : Str → Option Value) (s : Shared) (p : Program) (loose : List Str) (mean : ExcName → Option Value) (mg mb : Str → Option Value)
    (Rr : Result → Shared → Prop)
    (B : Below A₀ base outer h₀) (F : Fr h₀ L s.heap m) (X : (wPart w.params).In h₀) (T : Top p loose mean mg mb h₀) (hk : cs.kind = .function)
    (hcd : CodeHd base 116 112) (hd : dp + 40 < 1000) (hu : un + 500 < 9900)
  (R : List (Addr × Obj)) {x : Int} {tx : Tok} (N : News h₀ L s.heap R)
  (ret : ∀ h' tk' t y, -(10^24) < y → y < 10^24 → Fr h₀ L h' m → News h₀ L h' R → Rr (.ok (.ret (.int y t))) { s with heap := h', toks := tk' }) :
    codeAny (model P1 w) (ktrTop dp un gd cn cs L a ccd cl outer) (.call (.ref 129) ⟨[.int x tx], []⟩) Rr s := by
  k_dflt (refine' code_def ?k1 ?k2 ?k3 ?k4 ?k5 ?kA ?kF ?kK ?k6 ?k7 ?k8 ?k9 ?kB ?_ ?c2 ?c3 ?c4 ?c5; (case kA => exact rfl); (case kF => exact rfl); (case kK => assumption); (case k1 => k_asm); (case k2 => k_asm); (case k3 => k_asm); (case k4 => k_asm); (case k5 => k_asm); (case k6 => k_is); (case k7 => k_is); (case k8 => show _ < 1000; dsimp only [ktrTop]; omega); (case k9 => exact BindsTo.of_eq rfl); (case c5 => decide); (case kB => exact locs rfl); (case c2 => exact rfl); (case c3 => exact rfl); (case c4 => exact rfl); k_whole; intro g' L' h' FG' F' N' B' X' T'; (try dsimp only))
  k_steps
  all_goals
    rename Fr h₀ _ _ _ => kF; rename News h₀ _ _ _ => kN
    have z1 := Int.fmod_nonneg_of_pos x (b := 10 ^ Int.toNat 24) (by decide)
    have z2 := Int.fmod_lt_of_pos x (b := 10 ^ Int.toNat 24) (by decide)
    have z3 := Int.fmod_nonneg_of_pos (-x) (b := 10 ^ Int.toNat 24) (by decide)
    have z4 := Int.fmod_lt_of_pos (-x) (b := 10 ^ Int.toNat 24) (by decide)
    have z5 : (10 : Int) ^ Int.toNat 24 = 1000000000000000000000000 := by decide
    refine ret _ _ _ _ ?_ ?_ kF kN
    · omega
    · omega
end Mine

namespace Mine
set_option maxHeartbeats 8000000
theorem subL_of : ∀ {R all : List (Addr × Obj)}, (∀ p ∈ R, p ∈ all) → SubL R all
  | [], _, _ => trivial
  | q :: r, all, h => ⟨h q (.head _), subL_of fun p hp => h p (.tail _ hp)⟩
theorem offW_lt {I : Addr} {o : Obj} : ∀ {R : List (Addr × Obj)}, (∀ p ∈ R, p.1 < I) → OffW [(I, o)] R
  | [], _ => trivial
  | q :: r, h => by
    have h1 := h q (.head _)
    have h2 := offW_lt (o := o) fun p hp => h p (.tail _ hp)
    exact ⟨⟨.inl (Nat.ne_of_lt h1), trivial⟩, h2⟩
noncomputable abbrev tupIP (mk : Str) (p : Int) (t1 t2 : Tok) : Obj := { cls := .type "tuple", data := .seq #[.str mk t1, .int p t2] }
noncomputable def ChainIn (R : List (Addr × Obj)) : List Value → List (Str × Int) → Prop
  | [], [] => True
  | .ref a :: vs, e :: es => (∃ t1 t2, (a, tupIP e.1 e.2 t1 t2) ∈ R) ∧ (1 ≤ e.2 ∧ e.2 ≤ 30) ∧ ChainIn R vs es
  | _, _ => False
theorem itemsRest_of {prog : Program} {w : World} {A : Around} {E : Value → Shared → Prop} {h₀ : Heap} {env : Env} {target : Expr} {body : List Stmt} {Q : Flow → Shared → Prop} {s : Shared} {ws : List (Addr × String)} {keep news : List (Addr × Obj)} (Inv : List Value → (Str → Option Value) → Prop)
    (zero : ∀ m, Inv [] m → ∀ h tk, Fr h₀ env.locals h m → News h₀ env.locals h news → Q .next { s with heap := h, toks := tk })
    (succ : ∀ v r m, Inv (v :: r) m → (∀ m', Inv r m' → ItemsRest prog w A E h₀ env target body Q s ws keep (r.map .val) m' news) → ItemsRest prog w A E h₀ env target body Q s ws keep (.val v :: r.map .val) m news) :
    ∀ vs m, Inv vs m → ItemsRest prog w A E h₀ env target body Q s ws keep (vs.map .val) m news
  | [], m, h => .zero (zero m h)
  | v :: r, m, h => succ v r m h (itemsRest_of Inv zero succ r)
theorem mulS {a b : Int} (h1 : 1 ≤ b) (h2 : b ≤ 30) : IntMulOk a b := by
  have k : ∀ i : Fin 31, Builtin.Int.intBits ((i.val : Nat) : Int) ≤ 64 := by decide +kernel
  have z := k ⟨b.toNat, by omega⟩
  have e : ((b.toNat : Nat) : Int) = b := by omega
  refine IntMulOk.of_right ?_
  rw [← e]; exact z
theorem setBack {m1 : Str → Option Value} {x : Str} {v : Value} (h : m1 x = some v) : m1 = fun y => if y = x then some v else m1 y := by
  funext y
  by_cases e : y = x
  · rw [if_pos e, e, h]
  · rw [if_neg e]
noncomputable def led1 (mk : Str) (p n : Int) : Int := if (mk == Str.ofString "+") = true then n + p else if (mk == Str.ofString "-") = true then n - p else if (mk == Str.ofString "*") = true then n * p else n.fdiv p
noncomputable def ledV : List (Str × Int) → Int → Int
  | [], n => n
  | e :: r, n => ledV r (led1 e.1 e.2 n)
local macro_rules | `(tactic| walk_at "binaryOp Mult int int") => `(tactic| refine PyProof.Rows.mul_int ?_ (mulS (by assumption) (by assumption)))
local macro_rules | `(tactic| walk_at "binaryOp FloorDiv int int") => `(tactic| refine PyProof.Rows.floordiv_int (by omega) ?_ (Or.inl (PyProof.noPylong_small (by omega))))
theorem led_code (w : World) (dp un : Nat) (gd : Option (List Code)) (cn : Str) (cs : Scope) (a : Addr) (ccd : Value) (cl : List (Str × Addr)) (outer : List Env) (A₀ : Around) (base h₀ : Heap) (L : Addr) (m : Str → Option Value) (s : Shared) (p : Program) (loose : List Str) (mean : ExcName → Option Value) (mg mb : Str → Option Value)
    (Rr : Result → Shared → Prop)
    (B : Below A₀ base outer h₀) (F : Fr h₀ L s.heap m) (X : (wPart w.params).In h₀) (T : Top p loose mean mg mb h₀) (hk : cs.kind = .function)
    (hcd : CodeHd base 116 112) (hd : dp + 40 < 1000) (hu : un + 500 < 9900)
  (R : List (Addr × Obj)) {ch : Addr} {vs : List Value} {es : List (Str × Int)} {kc : Nat} {n0 : Int} {t0 : Tok} (N : News h₀ L s.heap R) (ic : (ch, W.listOf vs.toArray kc) ∈ R) (hc : ChainIn R vs es)
  (ret : ∀ h' tk' t, Fr h₀ L h' m → News h₀ L h' R → Rr (.ok (.ret (.int (ledV es n0) t))) { s with heap := h', toks := tk' }) :
    codeAny (model P1 w) (ktrTop dp un gd cn cs L a ccd cl outer) (.call (.ref 136) ⟨[.ref ch, .int n0 t0], []⟩) Rr s := by
  k_dflt (refine' code_def ?k1 ?k2 ?k3 ?k4 ?k5 ?kA ?kF ?kK ?k6 ?k7 ?k8 ?k9 ?kB ?_ ?c2 ?c3 ?c4 ?c5; (case kA => exact rfl); (case kF => exact rfl); (case kK => assumption); (case k1 => k_asm); (case k2 => k_asm); (case k3 => k_asm); (case k4 => k_asm); (case k5 => k_asm); (case k6 => k_is); (case k7 => k_is); (case k8 => show _ < 1000; dsimp only [ktrTop]; omega); (case k9 => exact BindsTo.of_eq rfl); (case c5 => decide); (case kB => exact locs rfl); (case c2 => exact rfl); (case c3 => exact rfl); (case c4 => exact rfl); k_whole; intro g' L' h' FG' F' N' B' X' T'; (try dsimp only))
  k_steps
  refine For_turns (by assumption) ?_
  k_steps
  refine iter_listTurns (n := kc) (lo := W.listOf vs.toArray kc) rfl (by assumption) (by assumption) (by assumption) rfl rfl ?_
  intro I hI
  refine itemsRest_of (fun vs' m1 => ∃ (es' : List (Str × Int)) (n : Int) (t : Tok), ChainIn R vs' es' ∧ ledV es' n = ledV es n0 ∧ m1 (Str.ofString "number") = some (.int n t)) ?z ?s vs _ ⟨es, n0, t0, hc, rfl, rfl⟩
  case z =>
    rintro m1 ⟨es', n, t, hC, hL, hm1⟩ h tk F9 N9
    rw [setBack hm1] at F9
    cases es' with
    | cons e es'' => exact hC.elim
    | nil =>
      rw [← hL] at ret
      k_steps
      rename Fr h₀ _ _ _ => kF; rename News h₀ _ _ _ => kN
      exact ret _ _ _ kF kN
  case s =>
    rintro v r m1 ⟨es', n, t, hC, hL, hm1⟩ IH
    cases es' with
    | nil => cases v <;> exact hC.elim
    | cons e es'' =>
    obtain ⟨mk, p⟩ := e
    cases v <;> try exact hC.elim
    rename_i av
    obtain ⟨⟨t1, t2, hm⟩, hp, hC'⟩ := hC
    refine ItemsRest.val (fun h tk F9 => AllObj.cons (fun o ho => AllObj.nil (fun N9 => ?_)))
    simp only [List.cons_append, List.nil_append] at N9
    dsimp only at hp hm
    obtain ⟨hp1, hp2⟩ := hp
    rw [setBack hm1] at F9
    k_steps
    all_goals
      rename Fr g' _ _ _ => kF; rename News g' _ _ _ => kN
      refine UnrEndW.intro kF kN R ⟨.head _, trivial⟩ (subL_of fun p hp => .tail _ hp) (offW_lt hI) ⟨⟨ic, trivial⟩, IH _ ⟨es'', _, _, hC', ?_, rfl⟩⟩
      rw [← hL]
      refine congrArg (ledV es'') ?_
      show _ = led1 mk p n
      unfold led1
      repeat (first | rw [if_pos (by assumption)] | rw [if_neg (by rw [Bool.not_eq_true]; assumption)])
end Mine

namespace Mine
open PySem PySem.W PyProof.Rows PySem.Calls PyProof.V PySem.Spec PySem.SeqAt
set_option maxHeartbeats 4000000
theorem rdTxts {h : Heap} : ∀ {vs : List Value} {ys : List Str}, TxtsAre vs ys → ReadsAll h vs (ys.map PyData.str) []
  | [], [], _ => .nil
  | .str x t :: vs, _ :: ys, ⟨rfl, r⟩ => by
    have := ReadsAll.cons (Reads.str (h := h) x t) (rdTxts (h := h) r)
    simpa using this
/-- the list's entries are pairs of two ints in the ledger -/
noncomputable abbrev tupII (p q : Int) (t1 t2 : Tok) : Obj := { cls := .type "tuple", data := .seq #[.int p t1, .int q t2] }
noncomputable def PairsIn (R : List (Addr × Obj)) : List Value → List (Int × Int) → Prop
  | [], [] => True
  | .ref a :: vs, e :: es => (∃ t1 t2, (a, tupII e.1 e.2 t1 t2) ∈ R) ∧ PairsIn R vs es
  | _, _ => False
theorem PairsIn.mono : ∀ {R R' : List (Addr × Obj)} {vs : List Value} {es : List (Int × Int)}, (∀ p ∈ R, p ∈ R') → PairsIn R vs es → PairsIn R' vs es
  | _, _, [], [], _, _ => trivial
  | _, _, .ref _ :: _, _ :: _, hs, h => ⟨⟨h.1.choose, h.1.choose_spec.choose, hs _ h.1.choose_spec.choose_spec⟩, PairsIn.mono hs h.2⟩
theorem PairsIn.snoc : ∀ {R : List (Addr × Obj)} {vs : List Value} {es : List (Int × Int)} {a : Addr} {e : Int × Int}, PairsIn R vs es → (∃ t1 t2, (a, tupII e.1 e.2 t1 t2) ∈ R) → PairsIn R (vs ++ [.ref a]) (es ++ [e])
  | _, [], [], _, _, _, h1 => ⟨h1, trivial⟩
  | _, .ref _ :: _, _ :: _, _, _, h, h1 => ⟨h.1, PairsIn.snoc h.2 h1⟩
noncomputable def pairD (e : Int × Int) : PyData := .tuple [.int e.1, .int e.2]
theorem rdPairs {h₀ h : Heap} {L : Addr} {R : List (Addr × Obj)} (N : News h₀ L h R) : ∀ {vs : List Value} {es : List (Int × Int)}, PairsIn R vs es → ReadsAll h vs (es.map pairD) []
  | [], [], _ => .nil
  | .ref a :: vs, e :: es, ⟨⟨t1, t2, hm⟩, r⟩ => by
    have h1 : Reads h (.ref a) (pairD e) [] := by
      have z : ReadsAll h (#[Value.int e.1 t1, Value.int e.2 t2] : Array Value).toList [.int e.1, .int e.2] [] := by
        have := ReadsAll.cons (Reads.int (h := h) e.1 t1) (ReadsAll.cons (Reads.int (h := h) e.2 t2) (.nil (h := h)))
        simpa using this
      exact Reads.tuple (N _ hm).1 rfl rfl z
    have := ReadsAll.cons h1 (rdPairs N r)
    simpa using this
section
variable {α : Type} (f : α → PyData)
theorem layAll_map : ∀ l : List α, (∀ a ∈ l, PyData.canLay0 (f a) = true) → PyData.canLayAll0 (l.map f) = true
  | [], _ => by simp [PyData.canLayAll0]
  | a :: l, hf => by
    have h1 := hf a (.head _)
    have h2 := layAll_map l fun b hb => hf b (.tail _ hb)
    simp [PyData.canLayAll0, h1, h2]
theorem depthAll_map (hf : ∀ a, PyData.depth (f a) ≤ 3) : ∀ l : List α, PyData.depthAll (l.map f) ≤ 3
  | [] => by simp [PyData.depthAll]
  | a :: l => by
    have h1 := hf a
    have h2 := depthAll_map hf l
    simp only [List.map_cons, PyData.depthAll]
    omega
theorem noMix_map (hf : ∀ a, noMix (f a) (f a) = true) : ∀ l : List α, noMixAll (l.map f) (l.map f) = true
  | [] => by simp [noMixAll]
  | a :: l => by simp [noMixAll, hf a, noMix_map hf l]
theorem same_map (hf : ∀ a, PySem.Spec.same (f a) (f a) = true) : ∀ l : List α, PySem.Spec.sameAll (l.map f) (l.map f) = true
  | [] => by simp [PySem.Spec.sameAll]
  | a :: l => by simp [PySem.Spec.sameAll, hf a, same_map hf l]
theorem shaped_map (l : List α) (h1 : ∀ a ∈ l, PyData.canLay0 (f a) = true) (h2 : ∀ a, PyData.depth (f a) ≤ 3) : shaped (.list (l.map f)) = true := by
  have z := depthAll_map f h2 l
  have h2 : PyData.depth (.list (l.map f)) ≤ 64 := by simp only [PyData.depth]; omega
  show (PyData.canLay0 (.list (l.map f)) && decide (PyData.depth (.list (l.map f)) ≤ 64)) = true
  rw [Bool.and_eq_true]
  exact ⟨by simp only [PyData.canLay0]; exact layAll_map f l h1, decide_eq_true h2⟩
end
section
variable {prog : Program} {w : World} {A : Around} {E : Value → Shared → Prop} {s : Shared}
theorem neSame {α : Type} {f : α → PyData} {l : List α} {a b : Addr} {vs us : List Value} {k1 k2 : Nat} {Q : Value → Shared → Prop} {h₀ : Heap} {L : Addr} {R : List (Addr × Obj)} (N : News h₀ L s.heap R)
    (m1 : (a, W.listOf vs.toArray k1) ∈ R) (m2 : (b, W.listOf us.toArray k2) ∈ R) (r1 : ReadsAll s.heap vs (l.map f) []) (r2 : ReadsAll s.heap us (l.map f) [])
    (h1 : ∀ a ∈ l, PyData.canLay0 (f a) = true) (h2 : ∀ a, PyData.depth (f a) ≤ 3) (h3 : ∀ a, noMix (f a) (f a) = true) (h4 : ∀ a, PySem.Spec.same (f a) (f a) = true) (hu : A.units + 64 < cLine)
    (h : Q (.bool false) s) : wpAny (model prog w) A (compareOp .NotEq (.ref a) (.ref b)) Q E s := by
  have q1 : Reads s.heap (.ref a) (.list (l.map f)) [a] := Reads.list (N _ m1).1 rfl rfl (by simpa using r1)
  have q2 : Reads s.heap (.ref b) (.list (l.map f)) [b] := Reads.list (N _ m2).1 rfl rfl (by simpa using r2)
  refine ne_dataH_same q1 q2 (shaped_map f l h1 h2) (shaped_map f l h1 h2) hu (by simp only [noMix]; exact noMix_map f h3 l) ?_
  simp only [PySem.Spec.same]
  rw [same_map f h4 l]
  exact h
theorem neTxts {ys : List Str} {a b : Addr} {vs us : List Value} {k1 k2 : Nat} {Q : Value → Shared → Prop} {h₀ : Heap} {L : Addr} {R : List (Addr × Obj)} (N : News h₀ L s.heap R)
    (m1 : (a, W.listOf vs.toArray k1) ∈ R) (m2 : (b, W.listOf us.toArray k2) ∈ R) (r1 : TxtsAre vs ys) (r2 : TxtsAre us ys) (hok : ∀ y ∈ ys, PyData.strOk y = true) (hu : A.units + 64 < cLine)
    (h : Q (.bool false) s) : wpAny (model prog w) A (compareOp .NotEq (.ref a) (.ref b)) Q E s :=
  neSame N m1 m2 (rdTxts r1) (rdTxts r2) (fun y hy => by simp [PyData.canLay0, hok y hy]) (fun _ => by simp [PyData.depth]) (fun _ => by simp [noMix]) (fun _ => by simp [PySem.Spec.same]) hu h
theorem nePairs {ps : List (Int × Int)} {a b : Addr} {vs us : List Value} {k1 k2 : Nat} {Q : Value → Shared → Prop} {h₀ : Heap} {L : Addr} {R : List (Addr × Obj)} (N : News h₀ L s.heap R)
    (m1 : (a, W.listOf vs.toArray k1) ∈ R) (m2 : (b, W.listOf us.toArray k2) ∈ R) (r1 : PairsIn R vs ps) (r2 : PairsIn R us ps) (hu : A.units + 64 < cLine)
    (h : Q (.bool false) s) : wpAny (model prog w) A (compareOp .NotEq (.ref a) (.ref b)) Q E s :=
  neSame N m1 m2 (rdPairs N r1) (rdPairs N r2) (fun _ _ => by simp [pairD, PyData.canLay0, PyData.canLayAll0]) (fun _ => by simp [pairD, PyData.depth, PyData.depthAll]) (fun _ => by simp [pairD, noMix, noMixAll]) (fun _ => by simp [pairD, PySem.Spec.same, PySem.Spec.sameAll]) hu h
end
end Mine

namespace Mine
/-- a reply of the law's: `m` the mark, `d` the port's digits -/
noncomputable def repS (m d : Str) : Str := Str.ofString "229 (" ++ m ++ Str.ofString "\"" ++ m ++ Str.ofString "\\" ++ m ++ d ++ m ++ Str.ofString ")"
noncomputable def markS (q : Nat) : Str := ⟨#[("+-*/".toList.getD q '+').toNat]⟩
noncomputable def portS (r : Nat) : Str := Str.ofString (toString ((r : Int) + 1))
noncomputable def rep (q r : Nat) : Str := repS (markS q) (portS r)
structure Good (resp dg : Str) (parts : List Str) (rt port : Int) : Prop where
  len : resp.length ≤ 100 ∧ 10 ≤ resp.length ∧ 6 ≤ rt ∧ rt < resp.length
  e1 : (Txt.slice resp none (some 3) != Str.ofString "229") = false
  e2 : Txt.find resp (Str.ofString "(") = 4
  e3 : Txt.find3 resp (Str.ofString ")") (Txt.find resp (Str.ofString "(") + 1) = rt
  e4 : (Txt.item resp (Txt.find resp (Str.ofString "(") + 1) != Txt.item resp (Txt.find3 resp (Str.ofString ")") (Txt.find resp (Str.ofString "(") + 1) - 1)) = false
  e5 : Txt.split (Txt.slice resp (some (Txt.find resp (Str.ofString "(") + 1)) (some (Txt.find3 resp (Str.ofString ")") (Txt.find resp (Str.ofString "(") + 1)))) (Txt.item resp (Txt.find resp (Str.ofString "(") + 1)) = parts
  e6 : parts.length = 5
  e7 : parts[3]? = some dg
  e8 : PySem.intText? dg = some port
  e9 : dg.length ≤ 100
noncomputable def goodB (q r : Nat) : Bool :=
  let resp := rep q r
  let rt : Int := resp.length - 1
  let parts := Txt.split (Txt.slice resp (some 5) (some rt)) (markS q)
  decide (resp.length ≤ 100) && decide (10 ≤ resp.length) && (Txt.slice resp none (some 3) == Str.ofString "229") && (Txt.find resp (Str.ofString "(") == 4)
   && (Txt.find3 resp (Str.ofString ")") 5 == rt) && (Txt.item resp 5 == markS q) && (Txt.item resp (rt - 1) == markS q) && (parts.length == 5) && (parts[3]? == some (portS r)) && (PySem.intText? (portS r) == some ((r : Int) + 1)) && ((portS r).length ≤ 100)
theorem goodAll : ((List.range 4).all fun q => (List.range 30).all fun r => goodB q r) = true := by decide +kernel
theorem good_of {q r : Nat} (hq : q < 4) (hr : r < 30) : Good (rep q r) (portS r) (Txt.split (Txt.slice (rep q r) (some 5) (some ((rep q r).length - 1))) (markS q)) ((rep q r).length - 1) ((r : Int) + 1) := by
  have h := List.all_eq_true.mp (List.all_eq_true.mp goodAll q (List.mem_range.mpr hq)) r (List.mem_range.mpr hr)
  unfold goodB at h
  simp only [Bool.and_eq_true, decide_eq_true_eq, beq_iff_eq] at h
  obtain ⟨⟨⟨⟨⟨⟨⟨⟨⟨⟨h1, h2⟩, h3⟩, h4⟩, h5⟩, h6⟩, h7⟩, h8⟩, h9⟩, h10⟩, h11⟩ := h
  have e5 : Txt.find (rep q r) (Str.ofString "(") + 1 = 5 := by rw [h4]; rfl
  refine ⟨⟨h1, h2, ?_, ?_⟩, ?_, h4, ?_, ?_, ?_, h8, h9, h10, h11⟩
  · omega
  · omega
  · rw [h3]; rfl
  · rw [e5]; exact h5
  · rw [e5, h5, h6, h7]
    simp
  · rw [e5, h5, h6]
end Mine

namespace Mine
noncomputable def repL (q r : Nat) : List Nat := (rep q r).cps.toList
noncomputable def escQ (c : Nat) : List Nat := if c = 92 then [92, 92] else if c = 34 then [92, 34] else [c]
noncomputable def escB (c : Nat) : List Nat := if c = 34 ∨ c = 92 ∨ c = 32 then [92, c] else [c]
theorem QB_esc : ∀ t : List Nat, QB (t.flatMap escQ) t
  | [] => .nil
  | c :: t => by
    rw [List.flatMap_cons]
    unfold escQ
    by_cases h : c = 92
    · rw [if_pos h, h]; exact .esc (QB_esc t)
    · rw [if_neg h]
      by_cases h2 : c = 34
      · rw [if_pos h2, h2]; exact .esc (QB_esc t)
      · rw [if_neg h2]; exact .plain h2 h (QB_esc t)
theorem BB_all : ∀ t : List Nat, BB (t.flatMap fun c => [92, c]) t
  | [] => .nil
  | c :: t => .esc (BB_all t)
theorem BB_esc : ∀ t : List Nat, (∀ c ∈ t, ¬ (c = 10 ∨ c = 9 ∨ c = 13)) → BB (t.flatMap escB) t
  | [], _ => .nil
  | c :: t, h => by
    rw [List.flatMap_cons]
    have ht := BB_esc t fun c hc => h c (.tail _ hc)
    have hc := h c (.head _)
    unfold escB
    by_cases h1 : c = 34 ∨ c = 92 ∨ c = 32
    · rw [if_pos h1]; exact .esc ht
    · rw [if_neg h1]
      refine .plain (fun hw => ?_) (fun e => h1 (.inr (.inl e))) ht
      unfold isWs at hw
      rcases hw with e | e | e | e
      · exact hc (.inl e)
      · exact hc (.inr (.inl e))
      · exact hc (.inr (.inr e))
      · exact h1 (.inr (.inr e))
/-- the word of a text in one of the three manners -/
noncomputable def wordL (mn : Nat) (t : List Nat) : List Nat :=
  if mn = 0 then 34 :: (t.flatMap escQ ++ [34]) else if mn = 1 then t.flatMap (fun c => [92, c]) else t.flatMap escB
noncomputable def behind (mn x : Nat) (b : List Nat) : List Nat := if mn = 0 then x :: b else b
theorem wordTok {mn c x : Nat} {t b : List Nat} (hc : ¬ (c = 34 ∨ c = 92 ∨ c = 32)) (hp : ∀ d ∈ c :: t, ¬ (d = 10 ∨ d = 9 ∨ d = 13)) (hx : isWs x) : Tok3 (wordL mn (c :: t) ++ x :: b) (c :: t) (behind mn x b) := by
  unfold wordL behind
  by_cases h0 : mn = 0
  · rw [if_pos h0, if_pos h0]
    rw [List.cons_append, List.append_assoc]
    exact .quoted (QB_esc _)
  · rw [if_neg h0, if_neg h0]
    by_cases h1 : mn = 1
    · rw [if_pos h1, List.flatMap_cons]
      exact .escaped (BB_all t) hx
    · rw [if_neg h1, List.flatMap_cons]
      have e : escB c = [c] := if_neg hc
      rw [e]
      refine .bare (fun hw => ?_) (fun e => hc (.inl e)) (fun e => hc (.inr (.inl e))) (BB_esc t fun d hd => hp d (.tail _ hd)) hx
      unfold isWs at hw
      have := hp c (.head _)
      rcases hw with e | e | e | e
      · exact this (.inl e)
      · exact this (.inr (.inl e))
      · exact this (.inr (.inr e))
      · exact hc (.inr (.inr e))
noncomputable def headB (q r : Nat) : Bool :=
  match repL q r with
  | [] => false
  | c :: t => c == 50 && (c :: t).all fun d => d != 10 && d != 9 && d != 13
theorem headAll : ((List.range 4).all fun q => (List.range 30).all fun r => headB q r) = true := by decide +kernel
theorem repTok {q r mn x : Nat} {b : List Nat} (hq : q < 4) (hr : r < 30) (hx : isWs x) : Tok3 (wordL mn (repL q r) ++ x :: b) (repL q r) (behind mn x b) := by
  have h := List.all_eq_true.mp (List.all_eq_true.mp headAll q (List.mem_range.mpr hq)) r (List.mem_range.mpr hr)
  unfold headB at h
  cases e : repL q r with
  | nil => rw [e] at h; cases h
  | cons c t =>
    rw [e] at h
    simp only [Bool.and_eq_true, beq_iff_eq, List.all_eq_true, bne_iff_ne, ne_eq] at h
    obtain ⟨h1, h2⟩ := h
    refine wordTok (by omega) (fun d hd => ?_) hx
    have z := h2 d hd
    omega
end Mine

namespace Mine
theorem app_toList3 (x y : Str) : (x ++ y).cps.toList = x.cps.toList ++ y.cps.toList := by
  rw [PySem.Str.cps_append, Array.toList_append]
theorem strExt {x y : Str} (h : x.cps.toList = y.cps.toList) : x = y := by
  have e : x.cps = y.cps := Array.ext' h
  cases x
  cases y
  cases e
  rfl
theorem join_two (c : Nat) (x y : Str) (r : List Str) : (Str.join ⟨#[c]⟩ (x :: y :: r)).cps.toList = x.cps.toList ++ c :: (Str.join ⟨#[c]⟩ (y :: r)).cps.toList := by
  show ((x ++ ⟨#[c]⟩ ++ Str.join ⟨#[c]⟩ (y :: r)) : Str).cps.toList = _
  rw [app_toList3, app_toList3, List.append_assoc]
  rfl
noncomputable def fB (c : Nat) : Str := Str.ofString "\\" ++ ⟨#[c]⟩
noncomputable def fE (c : Nat) : Str := if Txt.contains (Str.ofString "\"\\ ") ⟨#[c]⟩ = true then Str.ofString "\\" ++ ⟨#[c]⟩ else ⟨#[c]⟩
theorem joinE : ∀ l : List Str, (Str.join (Str.ofString "") l).cps.toList = l.flatMap (·.cps.toList)
  | [] => rfl
  | [x] => by
    show x.cps.toList = _
    simp
  | x :: y :: r => by
    show ((x ++ Str.ofString "" ++ Str.join (Str.ofString "") (y :: r)) : Str).cps.toList = _
    rw [app_toList3, app_toList3, joinE (y :: r), List.flatMap_cons]
    have e : (Str.ofString "").cps.toList = [] := by decide +kernel
    rw [e, List.append_nil]
    simp only [List.flatMap_cons]
theorem txtJoinE (l : List Str) : Txt.join (Str.ofString "") l = strOf (l.flatMap (·.cps.toList)) := by
  refine strExt ?_
  show (Builtin.Str.glued _ _).cps.toList = _
  rw [PySem.StrLaws.glued_eq_join, joinE]
theorem fB_list (c : Nat) : (fB c).cps.toList = [92, c] := by
  unfold fB
  rw [app_toList3]
  have e : (Str.ofString "\\").cps.toList = [92] := by decide +kernel
  rw [e]; rfl
theorem fE_list (c : Nat) : (fE c).cps.toList = escB c := by
  unfold fE escB
  have e : (Txt.contains (Str.ofString "\"\\ ") ⟨#[c]⟩ = true) ↔ (c = 34 ∨ c = 92 ∨ c = 32) := by
    unfold Txt.contains
    rw [PySem.StrLaws.found_one, decide_eq_true_iff]
    have e2 : (Str.ofString "\"\\ ").cps.toList = [34, 92, 32] := by decide +kernel
    rw [e2]
    simp
  by_cases h : c = 34 ∨ c = 92 ∨ c = 32
  · rw [if_pos h, if_pos (e.mpr h)]
    exact fB_list c
  · rw [if_neg h, if_neg (fun k => h (e.mp k))]
theorem repl_join (c : Nat) (z : Str) : ∀ parts : List Str, (∀ p ∈ parts, c ∉ p.cps.toList) → (Str.join z parts).cps.toList = (Str.join ⟨#[c]⟩ parts).cps.toList.flatMap (fun d => if d = c then z.cps.toList else [d])
  | [], _ => rfl
  | [x], h => by
    show x.cps.toList = x.cps.toList.flatMap _
    exact (flatFree c z _ (h x (.head _))).symm
  | x :: y :: r, h => by
    show ((x ++ z ++ Str.join z (y :: r)) : Str).cps.toList = _
    rw [app_toList3, app_toList3, join_two, repl_join c z (y :: r) (fun p hp => h p (.tail _ hp)), List.flatMap_append, List.flatMap_cons, if_pos rfl, flatFree c z _ (h x (.head _)), List.append_assoc]
where
  flatFree (c : Nat) (z : Str) : ∀ l : List Nat, c ∉ l → l.flatMap (fun d => if d = c then z.cps.toList else [d]) = l
    | [], _ => rfl
    | d :: l, h => by
      rw [List.flatMap_cons, flatFree c z l (fun k => h (.tail _ k)), if_neg (fun e => h (by rw [e]; exact .head _))]
      rfl
theorem repl_list (x z : Str) (c : Nat) : (Txt.replace x ⟨#[c]⟩ z).cps.toList = x.cps.toList.flatMap (fun d => if d = c then z.cps.toList else [d]) := by
  rw [PySem.StrLaws.replace_one, repl_join c z _ (PySem.StrLaws.split_free x c), PySem.StrLaws.join_split]
theorem word0_text (x : Str) : Str.ofString "\"" ++ Txt.replace (Txt.replace x (Str.ofString "\\") (Str.ofString "\\\\")) (Str.ofString "\"") (Str.ofString "\\\"") ++ Str.ofString "\"" = strOf (wordL 0 x.cps.toList) := by
  have e1 : Str.ofString "\\" = ⟨#[92]⟩ := by decide +kernel
  have e2 : Str.ofString "\"" = ⟨#[34]⟩ := by decide +kernel
  have e3 : (Str.ofString "\\\\").cps.toList = [92, 92] := by decide +kernel
  have e4 : (Str.ofString "\\\"").cps.toList = [92, 34] := by decide +kernel
  refine strExt ?_
  rw [app_toList3, app_toList3, e1, e2, repl_list, repl_list, e3, e4]
  show [34] ++ _ ++ [34] = wordL 0 x.cps.toList
  unfold wordL
  rw [if_pos rfl, List.flatMap_assoc]
  have e5 : ∀ d : Nat, List.flatMap (fun d => if d = 34 then [92, 34] else [d]) (if d = 92 then [92, 92] else [d]) = escQ d := by
    intro d
    unfold escQ
    by_cases h1 : d = 92
    · rw [if_pos h1, if_pos h1]; rfl
    · rw [if_neg h1, if_neg h1]
      by_cases h2 : d = 34
      · rw [if_pos h2, List.flatMap_singleton, if_pos h2]
      · rw [if_neg h2, List.flatMap_singleton, if_neg h2]
  simp only [e5]
  rfl
theorem word1_text (x : Str) : Txt.join (Str.ofString "") (x.cps.toList.map fB) = strOf (wordL 1 x.cps.toList) := by
  rw [txtJoinE]
  unfold wordL
  rw [if_neg (by decide), if_pos rfl, List.flatMap_map]
  simp only [fB_list]
theorem word2_text (x : Str) : Txt.join (Str.ofString "") (x.cps.toList.map fE) = strOf (wordL 2 x.cps.toList) := by
  rw [txtJoinE]
  unfold wordL
  rw [if_neg (by decide), if_neg (by decide), List.flatMap_map]
  simp only [fE_list]
theorem repl1_len (x : Str) : (Txt.replace x (Str.ofString "\\") (Str.ofString "\\\\")).length ≤ 2 * x.length := by
  have e1 : Str.ofString "\\" = ⟨#[92]⟩ := by decide +kernel
  have e3 : (Str.ofString "\\\\").cps.toList = [92, 92] := by decide +kernel
  have h := repl_list x (Str.ofString "\\\\") 92
  rw [e3] at h
  rw [e1]
  exact lenFlat h (fun d => by split <;> simp)
where
  lenFlat {y x : Str} {f : Nat → List Nat} (h : y.cps.toList = x.cps.toList.flatMap f) (hf : ∀ d, (f d).length ≤ 2) : y.length ≤ 2 * x.length := by
    have e : y.cps.toList.length = y.length := by simp [Str.length]
    have e2 : x.cps.toList.length = x.length := by simp [Str.length]
    rw [← e, ← e2, h]
    generalize x.cps.toList = l
    induction l with
    | nil => simp
    | cons d l ih =>
      have z := hf d
      rw [List.flatMap_cons, List.length_append, List.length_cons]
      omega
theorem repl2_len (x : Str) : (Txt.replace x (Str.ofString "\"") (Str.ofString "\\\"")).length ≤ 2 * x.length := by
  have e1 : Str.ofString "\"" = ⟨#[34]⟩ := by decide +kernel
  have e3 : (Str.ofString "\\\"").cps.toList = [92, 34] := by decide +kernel
  have h := repl_list x (Str.ofString "\\\"") 34
  rw [e3] at h
  rw [e1]
  exact repl1_len.lenFlat h (fun d => by split <;> simp)
noncomputable def len20B (q r : Nat) : Bool := decide ((rep q r).length ≤ 20)
theorem len20All : ((List.range 4).all fun q => (List.range 30).all fun r => len20B q r) = true := by decide +kernel
theorem rep_len20 {q r : Nat} (hq : q < 4) (hr : r < 30) : (rep q r).length ≤ 20 :=
  of_decide_eq_true (List.all_eq_true.mp (List.all_eq_true.mp len20All q (List.mem_range.mpr hq)) r (List.mem_range.mpr hr))
end Mine

namespace Mine
/-- what the law draws from a number: its remainder by 10 ** 6 -/
noncomputable def eOf (n : Int) : Nat := (n.fmod 1000000).toNat
noncomputable def qOf (e : Nat) : Nat := e % 4
noncomputable def rOf (e : Nat) : Nat := e / 4 % 30
noncomputable def mnOf (e : Nat) : Nat := e / 120 % 3
noncomputable def wsOf (b : Nat) : Nat := if b = 0 then 32 else if b = 1 then 9 else if b = 2 then 10 else 13
noncomputable def bOf (e : Nat) : Nat := wsOf (e / 360 % 4)
noncomputable def repE (e : Nat) : Str := rep (qOf e) (rOf e)
noncomputable def chE (e : Nat) : Str × Int := (markS (qOf e), (rOf e : Int) + 1)
noncomputable def wordE (e : Nat) : List Nat := wordL (mnOf e) (repL (qOf e) (rOf e)) ++ [bOf e]
theorem eOf_cast (n : Int) : ((eOf n : Nat) : Int) = n.fmod 1000000 := by
  have h1 := Int.fmod_nonneg_of_pos n (b := 1000000) (by decide)
  unfold eOf
  omega
theorem mark_at (e : Nat) : Txt.item (Str.ofString "+-*/") ((e : Int).fmod 4) = markS (qOf e) := by
  have h : (e : Int).fmod 4 = ((e % 4 : Nat) : Int) := by
    rw [Int.fmod_eq_emod_of_nonneg _ (by decide)]; rfl
  rw [h]
  have k : ∀ i : Fin 4, Txt.item (Str.ofString "+-*/") ((i.val : Nat) : Int) = markS i.val := by decide +kernel
  exact k ⟨e % 4, Nat.mod_lt _ (by decide)⟩
theorem ws_at (e : Nat) : Txt.item (Str.ofString " \t\n\r") (((e : Int).fdiv 360).fmod 4) = strOf [bOf e] := by
  have h : ((e : Int).fdiv 360).fmod 4 = ((e / 360 % 4 : Nat) : Int) := by
    rw [Int.fmod_eq_emod_of_nonneg _ (by decide), Int.fdiv_eq_ediv_of_nonneg _ (by decide)]; rfl
  rw [h]
  have k : ∀ i : Fin 4, Txt.item (Str.ofString " \t\n\r") ((i.val : Nat) : Int) = strOf [wsOf i.val] := by decide +kernel
  exact k ⟨e / 360 % 4, Nat.mod_lt _ (by decide)⟩
theorem port_at (e : Nat) : 1 + ((e : Int).fdiv 4).fmod 30 = (rOf e : Int) + 1 := by
  have h : ((e : Int).fdiv 4).fmod 30 = ((e / 4 % 30 : Nat) : Int) := by
    rw [Int.fmod_eq_emod_of_nonneg _ (by decide), Int.fdiv_eq_ediv_of_nonneg _ (by decide)]; rfl
  rw [h]
  exact Int.add_comm _ _
theorem mn_at (e : Nat) : ((e : Int).fdiv 120).fmod 3 = (mnOf e : Int) := by
  rw [Int.fmod_eq_emod_of_nonneg _ (by decide), Int.fdiv_eq_ediv_of_nonneg _ (by decide)]; rfl
theorem qOf_lt (e : Nat) : qOf e < 4 := Nat.mod_lt _ (by decide)
theorem rOf_lt (e : Nat) : rOf e < 30 := Nat.mod_lt _ (by decide)
theorem mnOf_lt (e : Nat) : mnOf e < 3 := Nat.mod_lt _ (by decide)
theorem isWs_b (e : Nat) : isWs (bOf e) := by
  unfold bOf wsOf isWs
  by_cases h0 : e / 360 % 4 = 0
  · simp [h0]
  by_cases h1 : e / 360 % 4 = 1
  · simp [h1]
  by_cases h2 : e / 360 % 4 = 2
  · simp [h2]
  simp [h0, h1, h2]
end Mine

namespace Mine
noncomputable def wlenB (q r : Nat) : Bool := (List.range 3).all fun mn => decide ((wordL mn (repL q r)).length ≤ 50)
theorem wlenAll : ((List.range 4).all fun q => (List.range 30).all fun r => wlenB q r) = true := by decide +kernel
theorem wordE_len (e : Nat) : (wordL (mnOf e) (repL (qOf e) (rOf e))).length ≤ 50 := by
  have h := List.all_eq_true.mp (List.all_eq_true.mp wlenAll (qOf e) (List.mem_range.mpr (qOf_lt e))) (rOf e) (List.mem_range.mpr (rOf_lt e))
  exact of_decide_eq_true (List.all_eq_true.mp h (mnOf e) (List.mem_range.mpr (mnOf_lt e)))
theorem wordsE_len : ∀ es : List Nat, (es.flatMap wordE).length ≤ 51 * es.length
  | [] => Nat.le_refl _
  | e :: es => by
    have h1 := wordE_len e
    have h2 := wordsE_len es
    rw [List.flatMap_cons, List.length_append, List.length_cons]
    have h3 : (wordE e).length = (wordL (mnOf e) (repL (qOf e) (rOf e))).length + 1 := by
      unfold wordE
      rw [List.length_append, List.length_singleton]
    omega
theorem strOf_len (l : List Nat) : (strOf l).length = l.length := by simp [Str.length]
theorem rep_text (e : Nat) : Str.ofString "229 (" ++ markS (qOf e) ++ Str.ofString "\"" ++ markS (qOf e) ++ Str.ofString "\\" ++ markS (qOf e) ++ Str.ofString (toString (1 + ((e / 4 % 30 : Nat) : Int))) ++ markS (qOf e) ++ Str.ofString ")" = repE e := by
  rw [show 1 + ((e / 4 % 30 : Nat) : Int) = ((rOf e : Nat) : Int) + 1 from Int.add_comm _ _]
  rfl
end Mine

namespace Mine
/-- the tokens that the lexer still reads -/
inductive ReadsE : List Nat → List Nat → Prop
  | nil {rem : List Nat} : Tok3 rem [] [] → ReadsE rem []
  | cons {rem b : List Nat} {e : Nat} {es : List Nat} : Tok3 rem (repL (qOf e) (rOf e)) b → ReadsE b es → ReadsE rem (e :: es)
theorem readsE : ∀ es : List Nat, ReadsE (es.flatMap wordE) es ∧ ∀ x, isWs x → ReadsE (x :: es.flatMap wordE) es
  | [] => ⟨.nil .eof, fun _ hx => .nil (.ws hx .eof)⟩
  | e :: es => by
    have ih := readsE es
    have h : Tok3 (wordL (mnOf e) (repL (qOf e) (rOf e)) ++ bOf e :: es.flatMap wordE) (repL (qOf e) (rOf e)) (behind (mnOf e) (bOf e) (es.flatMap wordE)) := repTok (qOf_lt e) (rOf_lt e) (isWs_b e)
    have hb : ReadsE (behind (mnOf e) (bOf e) (es.flatMap wordE)) es := by
      unfold behind
      split
      · exact ih.2 _ (isWs_b e)
      · exact ih.1
    have e1 : (e :: es).flatMap wordE = wordL (mnOf e) (repL (qOf e) (rOf e)) ++ bOf e :: es.flatMap wordE := by
      rw [List.flatMap_cons]
      unfold wordE
      rw [List.append_assoc]
      rfl
    rw [e1]
    exact ⟨.cons h hb, fun x hx => .cons (.ws hx h) hb⟩
theorem strOf_repE (e : Nat) : strOf (repL (qOf e) (rOf e)) = repE e := by
  unfold repL repE
  show (⟨(rep _ _).cps.toList.toArray⟩ : Str) = _
  rw [Array.toArray_toList]
theorem okAll : ((List.range 4).all fun q => (List.range 30).all fun r => PyData.strOk (rep q r)) = true := by decide +kernel
theorem repE_ok (e : Nat) : PyData.strOk (repE e) = true :=
  List.all_eq_true.mp (List.all_eq_true.mp okAll (qOf e) (List.mem_range.mpr (qOf_lt e))) (rOf e) (List.mem_range.mpr (rOf_lt e))
end Mine

namespace Mine
noncomputable def signB (q r : Nat) : Bool := Txt.item (rep q r) 5 == (["+", "-", "*", "/"].map Str.ofString).getD q (Str.ofString "+")
theorem signAll : ((List.range 4).all fun q => (List.range 30).all fun r => signB q r) = true := by decide +kernel
theorem sign_at (e : Nat) : Txt.item (repE e) 5 = (["+", "-", "*", "/"].map Str.ofString).getD (qOf e) (Str.ofString "+") := by
  have h := List.all_eq_true.mp (List.all_eq_true.mp signAll (qOf e) (List.mem_range.mpr (qOf_lt e))) (rOf e) (List.mem_range.mpr (rOf_lt e))
  unfold signB at h
  exact beq_iff_eq.mp h
theorem sign_cases (e : Nat) : (qOf e = 0 ∧ Txt.item (repE e) 5 = Str.ofString "+") ∨ (qOf e = 1 ∧ Txt.item (repE e) 5 = Str.ofString "-") ∨ (qOf e = 2 ∧ Txt.item (repE e) 5 = Str.ofString "*") ∨ (qOf e = 3 ∧ Txt.item (repE e) 5 = Str.ofString "/") := by
  have h := sign_at e
  have hq := qOf_lt e
  have c : qOf e = 0 ∨ qOf e = 1 ∨ qOf e = 2 ∨ qOf e = 3 := by omega
  rcases c with c | c | c | c <;> rw [c] at h
  · exact .inl ⟨c, h⟩
  · exact .inr (.inl ⟨c, h⟩)
  · exact .inr (.inr (.inl ⟨c, h⟩))
  · exact .inr (.inr (.inr ⟨c, h⟩))
theorem goodE (e : Nat) : ∃ parts rt, Good (repE e) (portS (rOf e)) parts rt ((rOf e : Int) + 1) := ⟨_, _, good_of (qOf_lt e) (rOf_lt e)⟩
noncomputable def toldE (e : Nat) : Int × Int := ((14 : Int) + qOf e, (rOf e : Int) + 1)
theorem txtsGet {v : Value} : ∀ (vs : List Value) (ys : List Str) (i : Nat), TxtsAre vs ys → vs[i]? = some v → ∃ y t, ys[i]? = some y ∧ v = .str y t := by
  intro vs
  induction vs with
  | nil => intro ys i _ hv; simp at hv
  | cons u vs ih =>
    intro ys i h hv
    cases ys with
    | nil => cases u <;> exact h.elim
    | cons y ys =>
      cases u <;> try exact h.elim
      rename_i x t
      cases i with
      | zero =>
        have e := h.1
        simp at hv
        exact ⟨y, t, rfl, by rw [← hv, e]⟩
      | succ i => exact ih ys i h.2 (by simpa using hv)
end Mine

namespace Mine
open PySem PySem.W PyProof.Rows PySem.NumText PySem.W.KIN
noncomputable def numS (y : Int) : Str := Str.ofString (toString y)
theorem signs_neg (m : Nat) : (Str.ofString (toString (Int.negSucc m))).cps.toList = 45 :: (Nat.toDigits 10 (m + 1)).map Char.toNat := by
  rw [signs_ofString]
  show ("-" ++ Nat.repr (m + 1)).toList.map Char.toNat = _
  rw [String.toList_append, List.map_append, Nat.toList_repr]
  rfl
theorem digs (m : Nat) : AllDigits ((Nat.toDigits 10 m).map Char.toNat) := by
  intro c hc
  obtain ⟨ch, hch, e⟩ := List.mem_map.mp hc
  have r := digit_range (Nat.isDigit_of_mem_toDigits (by decide) (by decide) hch)
  rw [← e]
  exact r
theorem digs_ne (m : Nat) : (Nat.toDigits 10 m).map Char.toNat ≠ [] := by
  intro e
  have h := toDigits_len_ge 10 m
  rw [List.map_eq_nil_iff.mp e] at h
  exact absurd h (by decide)
theorem digs_len {m : Nat} (h : m < 10 ^ 24) : (Nat.toDigits 10 m).length ≤ 24 := by
  have z : (Str.ofString (toString ((m : Nat) : Int))).length ≤ 24 := toString_length_le (v := (m : Int)) (k := 24) (by omega) (by decide) (by omega)
  have e : (Str.ofString (toString ((m : Nat) : Int))).cps.toList.length = (Str.ofString (toString ((m : Nat) : Int))).length := by simp [Str.length]
  rw [← e, signs_num, List.length_map] at z
  exact z
theorem numS_len {y : Int} (h1 : -(10 ^ 24) < y) (h2 : y < 10 ^ 24) : (numS y).length ≤ 25 ∧ 1 ≤ (numS y).length := by
  have e : (numS y).cps.toList.length = (numS y).length := by simp [Str.length]
  rw [← e]
  unfold numS
  cases y with
  | ofNat m =>
    show (Str.ofString (toString ((m : Nat) : Int))).cps.toList.length ≤ 25 ∧ 1 ≤ (Str.ofString (toString ((m : Nat) : Int))).cps.toList.length
    rw [signs_num, List.length_map]
    have z := digs_len (m := m) (by have := h2; simp only [Int.ofNat_eq_natCast] at this; omega)
    have z2 := List.length_pos_iff.mpr (digs_ne m)
    rw [List.length_map] at z2
    omega
  | negSucc m =>
    rw [signs_neg, List.length_cons, List.length_map]
    have z := digs_len (m := m + 1) (by omega)
    omega
theorem numS_read {y : Int} (h1 : -(10 ^ 24) < y) (h2 : y < 10 ^ 24) : PySem.intText? (numS y) = some y := by
  have hl := (numS_len h1 h2).1
  unfold numS at hl ⊢
  cases y with
  | ofNat m =>
    have hs := signs_num m
    have e := intText_digits (x := Str.ofString (toString ((m : Nat) : Int))) (by rw [hs]; exact digs m) (by rw [hs]; exact digs_ne m) (Nat.le_trans hl (by decide))
    rw [hs, val_back] at e
    exact e
  | negSucc m =>
    have e := intText_neg (signs_neg m) (digs (m + 1)) (digs_ne (m + 1)) (Nat.le_trans hl (by decide))
    rw [val_back] at e
    exact e
theorem numS_q (y : Int) : ∀ c ∈ (numS y).cps.toList, c ≠ 34 := fun c hc e => by
  subst e
  exact (intText_free_34 y).mp hc
noncomputable def goalW (y : Int) : Str := Str.ofString "257 \"" ++ numS y ++ Str.ofString "\" is wanted"
theorem app_toList (x y : Str) : (x ++ y).cps.toList = x.cps.toList ++ y.cps.toList := by
  rw [PySem.Str.cps_append, Array.toList_append]
theorem goalW_list (y : Int) : (goalW y).cps.toList = [50, 53, 55, 32, 34] ++ ((numS y).cps.toList ++ (34 :: 32 :: [105, 115, 32, 119, 97, 110, 116, 101, 100])) := by
  unfold goalW
  rw [app_toList, app_toList, List.append_assoc]
  have e1 : (Str.ofString "257 \"").cps.toList = [50, 53, 55, 32, 34] := by decide +kernel
  have e2 : (Str.ofString "\" is wanted").cps.toList = 34 :: 32 :: [105, 115, 32, 119, 97, 110, 116, 101, 100] := by decide +kernel
  rw [e1, e2]
theorem goalW_len {y : Int} (h1 : -(10 ^ 24) < y) (h2 : y < 10 ^ 24) : 6 ≤ (goalW y).length ∧ (goalW y).length ≤ 100 := by
  have e : (goalW y).cps.toList.length = (goalW y).length := by simp [Str.length]
  have e2 : (numS y).cps.toList.length = (numS y).length := by simp [Str.length]
  have z := numS_len h1 h2
  rw [← e, goalW_list]
  simp only [List.length_append, List.length_cons, List.length_nil]
  omega
theorem goalW_drop (y : Int) : (goalW y).cps.toList.drop 5 = (numS y).cps.toList ++ 34 :: 32 :: [105, 115, 32, 119, 97, 110, 116, 101, 100] := by
  rw [goalW_list]; rfl
open PySem.StrLaws PySem.Builtin PySem.Builtin.Str in
theorem slice_nat (x : Str) (i j : Nat) (h : i ≤ j) (hj : j ≤ x.length) : Txt.slice x (some (i : Int)) (some (j : Int)) = strOf ((x.cps.toList.drop i).take (j - i)) := by
  have e := sliceText_nat x (a := i) (b := j) h hj
  show sliceText x _ _ = _
  rw [e]
open PySem.StrLaws PySem.Builtin PySem.Builtin.Str in
theorem slice_none (x : Str) (j : Int) : Txt.slice x none (some j) = Txt.slice x (some ((0 : Nat) : Int)) (some j) := by
  show sliceText x none (some j) = sliceText x (some ((0 : Nat) : Int)) (some j)
  unfold sliceText
  have e : strSliceIndices none (some j) 1 x.length = strSliceIndices (some ((0 : Nat) : Int)) (some j) 1 x.length := by
    unfold strSliceIndices
    have h0 : ∀ k : Nat, max (0 : Int) (min 0 (k : Int)) = 0 := fun k => by omega
    simp [h0]
  rw [e]
theorem goalW_facts {y : Int} (h1 : -(10 ^ 24) < y) (h2 : y < 10 ^ 24) : (Txt.slice (goalW y) none (some 3) != Str.ofString "229") = true ∧ (Txt.slice (goalW y) none (some 3) != Str.ofString "257") = false ∧ (Txt.slice (goalW y) (some 3) (some 5) != Str.ofString " \"") = false := by
  have hl := goalW_len h1 h2
  have a : Txt.slice (goalW y) none (some 3) = strOf [50, 53, 55] := by
    rw [slice_none]
    show Txt.slice (goalW y) (some ((0 : Nat) : Int)) (some ((3 : Nat) : Int)) = _
    rw [slice_nat _ 0 3 (by decide) (by omega), goalW_list]
    rfl
  have b : Txt.slice (goalW y) (some 3) (some 5) = strOf [32, 34] := by
    show Txt.slice (goalW y) (some ((3 : Nat) : Int)) (some ((5 : Nat) : Int)) = _
    rw [slice_nat _ 3 5 (by decide) (by omega), goalW_list]
    rfl
  rw [a, b]
  exact ⟨by decide +kernel, by decide +kernel, by decide +kernel⟩
end Mine

namespace Mine
noncomputable def turnV (q : Nat) (p b : Int) : Int := if q = 0 then b - p else if q = 1 then b + p else if q = 2 then -((-b).fdiv p) else b * p
noncomputable def backV : List Nat → Int → Int
  | [], g => g
  | e :: es, g => turnV (qOf e) ((rOf e : Int) + 1) (backV es g)
theorem led1_q (q : Nat) (hq : q < 4) (p n : Int) : led1 (markS q) p n = if q = 0 then n + p else if q = 1 then n - p else if q = 2 then n * p else n.fdiv p := by
  unfold led1
  have c : q = 0 ∨ q = 1 ∨ q = 2 ∨ q = 3 := by omega
  rcases c with rfl | rfl | rfl | rfl
  · rw [if_pos (by decide +kernel), if_pos rfl]
  · rw [if_neg (by decide +kernel), if_pos (by decide +kernel)]; rfl
  · rw [if_neg (by decide +kernel), if_neg (by decide +kernel), if_pos (by decide +kernel)]; rfl
  · rw [if_neg (by decide +kernel), if_neg (by decide +kernel), if_neg (by decide +kernel)]; rfl
theorem fdiv_le {a p n : Int} (hp : 0 < p) : n ≤ a.fdiv p ↔ n * p ≤ a := by
  rw [Int.fdiv_eq_ediv_of_nonneg _ (by omega)]
  exact Int.le_ediv_iff_mul_le hp
theorem turn_led (q : Nat) (hq : q < 4) {p b n : Int} (hp : 0 < p) : turnV q p b ≤ n ↔ b ≤ led1 (markS q) p n := by
  rw [led1_q q hq]
  unfold turnV
  have c : q = 0 ∨ q = 1 ∨ q = 2 ∨ q = 3 := by omega
  rcases c with rfl | rfl | rfl | rfl
  · simp only [if_true]; omega
  · simp only [if_true, show ¬ ((1 : Nat) = 0) by decide, if_false]; omega
  · simp only [if_true, show ¬ ((2 : Nat) = 0) by decide, show ¬ ((2 : Nat) = 1) by decide, if_false]
    have z := @fdiv_le (-b) p (-n) hp
    rw [Int.neg_mul] at z
    constructor
    · intro h
      have := z.mp (by omega)
      omega
    · intro h
      have := z.mpr (by omega)
      omega
  · simp only [show ¬ ((3 : Nat) = 0) by decide, show ¬ ((3 : Nat) = 1) by decide, show ¬ ((3 : Nat) = 2) by decide, if_false]
    exact (fdiv_le hp).symm
theorem back_led : ∀ (es : List Nat) (g n : Int), backV es g ≤ n ↔ g ≤ ledV (es.map chE) n
  | [], g, n => Iff.rfl
  | e :: es, g, n => by
    show turnV _ _ _ ≤ n ↔ g ≤ ledV (es.map chE) (led1 (markS (qOf e)) ((rOf e : Int) + 1) n)
    rw [turn_led (qOf e) (qOf_lt e) (by omega)]
    exact back_led es g _
end Mine

namespace Mine
set_option maxHeartbeats 8000000
noncomputable def Stop (P : Prop) : Prop := P
theorem Stop.go {P : Prop} (h : Stop P) : P := h
local macro_rules | `(tactic| walk_at "eval ListComp") => `(tactic| refine Stop.go ?_)
theorem strsAre_of : ∀ {vs : List Value} {ys : List Str}, TxtsAre vs ys → StrsAre vs ys
  | [], [], _ => .nil
  | .str x t :: _, _ :: _, h => h.1 ▸ .cons x t (strsAre_of h.2)
theorem lenTxts (x : Str) (hx : x.length ≤ 20) {f : Nat → Str} (hf : ∀ c, (f c).length ≤ 2) : ((x.cps.toList.map f).map (·.length)).sum + (x.cps.toList.map f).length * 64 ≤ 16777216 := by
  have h := sumTwo hf x.cps.toList
  have e : x.cps.toList.length = x.length := by simp [Str.length]
  rw [List.length_map]
  omega
theorem word1_code (w : World) (dp un : Nat) (gd : Option (List Code)) (cn : Str) (cs : Scope) (a : Addr) (ccd : Value) (cl : List (Str × Addr)) (outer : List Env) (A₀ : Around) (base h₀ : Heap) (L : Addr) (m : Str → Option Value) (s : Shared) (p : Program) (loose : List Str) (mean : ExcName → Option Value) (mg mb : Str → Option Value)
    (Rr : Result → Shared → Prop)
    (B : Below A₀ base outer h₀) (F : Fr h₀ L s.heap m) (X : (wPart w.params).In h₀) (T : Top p loose mean mg mb h₀) (hk : cs.kind = .function)
    (hcd : CodeHd base 116 112) (hd : dp + 40 < 1000) (hu : un + 500 < 9900)
  (R : List (Addr × Obj)) {x : Str} {tx : Tok} {tm : Tok} (N : News h₀ L s.heap R) (hx : x.length ≤ 20)
  (ret : ∀ h' tk' t, Fr h₀ L h' m → News h₀ L h' R → Rr (.ok (.ret (.str (Txt.join (Str.ofString "") (x.cps.toList.map fun c => Str.ofString "\\" ++ ⟨#[c]⟩)) t))) { s with heap := h', toks := tk' }) :
    codeAny (model P1 w) (ktrTop dp un gd cn cs L a ccd cl outer) (.call (.ref 122) ⟨[.str x tx, .int 1 tm], []⟩) Rr s := by
  k_dflt (refine' code_def ?k1 ?k2 ?k3 ?k4 ?k5 ?kA ?kF ?kK ?k6 ?k7 ?k8 ?k9 ?kB ?_ ?c2 ?c3 ?c4 ?c5; (case kA => exact rfl); (case kF => exact rfl); (case kK => assumption); (case k1 => k_asm); (case k2 => k_asm); (case k3 => k_asm); (case k4 => k_asm); (case k5 => k_asm); (case k6 => k_is); (case k7 => k_is); (case k8 => show _ < 1000; dsimp only [ktrTop]; omega); (case k9 => exact BindsTo.of_eq rfl); (case c5 => decide); (case kB => exact locs rfl); (case c2 => exact rfl); (case c3 => exact rfl); (case c4 => exact rfl); k_whole; intro g' L' h' FG' F' N' B' X' T'; (try dsimp only))
  k_steps
  unfold Stop
  rename Fr g' L' _ _ => kF
  refine ListComp_S kF rfl (by decide +kernel) rfl (by decide +kernel) rfl ?_
  k_steps
  rename News g' L' _ _ => kN
  refine ⟨_, _, R, rfl, rfl, kF, kN, by (show x.length ≤ _); exact Nat.le_trans hx (Nat.le_of_ble_eq_true rfl), fun s₂ ⟨hh, e⟩ => ?_⟩
  subst e
  refine compTxt_of (fun c => Str.ofString "\\" ++ ⟨#[c]⟩) ?step ?fin _ 0 [] (by omega) trivial
  case step =>
    intro c u I oI C oC D m₂ h tk E' ys hc hns hm F9 N9
    have hl1 : Str.length ⟨#[c]⟩ = 1 := rfl
    k_steps
    all_goals first | exact F9 | exact N9
  case fin =>
    intro ys hys D h9 tk9 F9 N9 o9
    k_steps
    refine join_listC (ys := x.cps.toList.map fun c => Str.ofString "\\" ++ ⟨#[c]⟩) ⟨_, (N9 _ (.head _)).1, rfl, _, rfl⟩ (strsAre_of hys) (by decide) ?_ (fun t' k => ?_)
    · exact lenTxts x hx fun c => Nat.le_refl 2
    · k_steps
      rename Fr h₀ _ _ _ => kF; rename News h₀ _ _ _ => kN
      exact ret _ _ _ kF fun p hp => kN p (.tail _ hp)
theorem word2_code (w : World) (dp un : Nat) (gd : Option (List Code)) (cn : Str) (cs : Scope) (a : Addr) (ccd : Value) (cl : List (Str × Addr)) (outer : List Env) (A₀ : Around) (base h₀ : Heap) (L : Addr) (m : Str → Option Value) (s : Shared) (p : Program) (loose : List Str) (mean : ExcName → Option Value) (mg mb : Str → Option Value)
    (Rr : Result → Shared → Prop)
    (B : Below A₀ base outer h₀) (F : Fr h₀ L s.heap m) (X : (wPart w.params).In h₀) (T : Top p loose mean mg mb h₀) (hk : cs.kind = .function)
    (hcd : CodeHd base 116 112) (hd : dp + 40 < 1000) (hu : un + 500 < 9900)
  (R : List (Addr × Obj)) {x : Str} {tx : Tok} {tm : Tok} (N : News h₀ L s.heap R) (hx : x.length ≤ 20)
  (ret : ∀ h' tk' t, Fr h₀ L h' m → News h₀ L h' R → Rr (.ok (.ret (.str (Txt.join (Str.ofString "") (x.cps.toList.map fun c => if Txt.contains (Str.ofString "\"\\ ") ⟨#[c]⟩ = true then Str.ofString "\\" ++ ⟨#[c]⟩ else ⟨#[c]⟩)) t))) { s with heap := h', toks := tk' }) :
    codeAny (model P1 w) (ktrTop dp un gd cn cs L a ccd cl outer) (.call (.ref 122) ⟨[.str x tx, .int 2 tm], []⟩) Rr s := by
  k_dflt (refine' code_def ?k1 ?k2 ?k3 ?k4 ?k5 ?kA ?kF ?kK ?k6 ?k7 ?k8 ?k9 ?kB ?_ ?c2 ?c3 ?c4 ?c5; (case kA => exact rfl); (case kF => exact rfl); (case kK => assumption); (case k1 => k_asm); (case k2 => k_asm); (case k3 => k_asm); (case k4 => k_asm); (case k5 => k_asm); (case k6 => k_is); (case k7 => k_is); (case k8 => show _ < 1000; dsimp only [ktrTop]; omega); (case k9 => exact BindsTo.of_eq rfl); (case c5 => decide); (case kB => exact locs rfl); (case c2 => exact rfl); (case c3 => exact rfl); (case c4 => exact rfl); k_whole; intro g' L' h' FG' F' N' B' X' T'; (try dsimp only))
  k_steps
  unfold Stop
  rename Fr g' L' _ _ => kF
  refine ListComp_S kF rfl (by decide +kernel) rfl (by decide +kernel) rfl ?_
  k_steps
  rename News g' L' _ _ => kN
  refine ⟨_, _, R, rfl, rfl, kF, kN, by (show x.length ≤ _); exact Nat.le_trans hx (Nat.le_of_ble_eq_true rfl), fun s₂ ⟨hh, e⟩ => ?_⟩
  subst e
  refine compTxt_of (fun c => if Txt.contains (Str.ofString "\"\\ ") ⟨#[c]⟩ = true then Str.ofString "\\" ++ ⟨#[c]⟩ else ⟨#[c]⟩) ?step ?fin _ 0 [] (by omega) trivial
  case step =>
    intro c u I oI C oC D m₂ h tk E' ys hc hns hm F9 N9
    have hl1 : Str.length ⟨#[c]⟩ = 1 := rfl
    k_steps
    all_goals first | exact F9 | exact N9 | (rename (List.isEmpty _) = _ => hoc; unfold Txt.contains; rw [hoc]; rfl)
  case fin =>
    intro ys hys D h9 tk9 F9 N9 o9
    k_steps
    refine join_listC (ys := x.cps.toList.map fun c => if Txt.contains (Str.ofString "\"\\ ") ⟨#[c]⟩ = true then Str.ofString "\\" ++ ⟨#[c]⟩ else ⟨#[c]⟩) ⟨_, (N9 _ (.head _)).1, rfl, _, rfl⟩ (strsAre_of hys) (by decide) ?_ (fun t' k => ?_)
    · exact lenTxts x hx fun c => by split; exact Nat.le_refl 2; exact Nat.le_succ 1
    · k_steps
      rename Fr h₀ _ _ _ => kF; rename News h₀ _ _ _ => kN
      exact ret _ _ _ kF fun p hp => kN p (.tail _ hp)
open PySem.Builtin PySem.Builtin.Str in
theorem replaceT {prog : Program} {w : World} {A : Around} {E : Value → Shared → Prop} {s : Shared} {x y z : Str} {t u v : Tok} {Q : Value → Shared → Prop} (hu : u ≠ 0) (hv : v ≠ 0) (huv : u ≠ v) (hyz : (y == z) = false) (hx : x.length ≤ 1000) (hz : z.length ≤ 14)
    (hq : ∀ t' k, @LE.le Nat _ s.toks k → Q (.str (Txt.replace x y z) t') { s with toks := k }) : wpAny (model prog w) A (call (.builtin "str.replace") [.str x t, .str y u, .str z v]) Q E s := by
  have hm : (x.length + 1) * z.length ≤ (x.length + 1) * 14 := Nat.mul_le_mul_left _ hz
  have hl : tooLong (x.length + (occurrences x y 0 x.length (x.length + 1)).length * z.length) = false := by
    have h1 := StrLaws.occ_length_le x y 0 x.length (x.length + 1)
    have h2 : (occurrences x y 0 x.length (x.length + 1)).length * z.length ≤ (x.length + 1) * z.length := Nat.mul_le_mul_right _ h1
    unfold tooLong
    refine decide_eq_false (Nat.not_lt.mpr ?_)
    refine Nat.le_trans (m := 16777216) (by omega) (Nat.le_of_ble_eq_true rfl)
  refine call_gives F.slot_str_replace (typeIs_str _ _ _) F.entry_str_replace (F.args_str_replace_3 _ _ _)
    (gives_str_replace x y z t u v fun _ => ⟨by simp [hu, hv], by simp [huv], hyz, hl⟩) ?_
  unfold Txt.replace at hq
  cases hc : ((occurrences x y 0 x.length (x.length + 1)).isEmpty || (y.length == 0 && z.length == 0))
  · rw [hc] at hq
    simp only [Bool.false_eq_true, if_false] at hq ⊢
    refine ⟨fits_replaced y (by omega), hq _ _ ?_⟩
    exact Nat.le_succ _
  · rw [hc] at hq
    simp only [if_true] at hq ⊢
    exact hq t s.toks (Nat.le_refl _)
local macro_rules | `(tactic| walk_at "call builtin:str.replace") => `(tactic| (refine replaceT (by (show @Ne Nat _ _); omega) (by (show @Ne Nat _ _); omega) (by (show @Ne Nat _ _); omega) (by decide) (by omega) (by decide) ?_; intro _ _ hrk; (try dsimp only at hrk)))
theorem word0_code (w : World) (dp un : Nat) (gd : Option (List Code)) (cn : Str) (cs : Scope) (a : Addr) (ccd : Value) (cl : List (Str × Addr)) (outer : List Env) (A₀ : Around) (base h₀ : Heap) (L : Addr) (m : Str → Option Value) (s : Shared) (p : Program) (loose : List Str) (mean : ExcName → Option Value) (mg mb : Str → Option Value)
    (Rr : Result → Shared → Prop)
    (B : Below A₀ base outer h₀) (F : Fr h₀ L s.heap m) (X : (wPart w.params).In h₀) (T : Top p loose mean mg mb h₀) (hk : cs.kind = .function)
    (hcd : CodeHd base 116 112) (hd : dp + 40 < 1000) (hu : un + 500 < 9900)
  (R : List (Addr × Obj)) {x : Str} {tx : Tok} {tm : Tok} (N : News h₀ L s.heap R) (hx : x.length ≤ 20) (h1 : (Txt.replace x (Str.ofString "\\") (Str.ofString "\\\\")).length ≤ 40) (h2 : (Txt.replace (Txt.replace x (Str.ofString "\\") (Str.ofString "\\\\")) (Str.ofString "\"") (Str.ofString "\\\"")).length ≤ 80)
  (ret : ∀ h' tk' t, Fr h₀ L h' m → News h₀ L h' R → Rr (.ok (.ret (.str (Str.ofString "\"" ++ Txt.replace (Txt.replace x (Str.ofString "\\") (Str.ofString "\\\\")) (Str.ofString "\"") (Str.ofString "\\\"") ++ Str.ofString "\"") t))) { s with heap := h', toks := tk' }) :
    codeAny (model P1 w) (ktrTop dp un gd cn cs L a ccd cl outer) (.call (.ref 122) ⟨[.str x tx, .int 0 tm], []⟩) Rr s := by
  k_dflt (refine' code_def ?k1 ?k2 ?k3 ?k4 ?k5 ?kA ?kF ?kK ?k6 ?k7 ?k8 ?k9 ?kB ?_ ?c2 ?c3 ?c4 ?c5; (case kA => exact rfl); (case kF => exact rfl); (case kK => assumption); (case k1 => k_asm); (case k2 => k_asm); (case k3 => k_asm); (case k4 => k_asm); (case k5 => k_asm); (case k6 => k_is); (case k7 => k_is); (case k8 => show _ < 1000; dsimp only [ktrTop]; omega); (case k9 => exact BindsTo.of_eq rfl); (case c5 => decide); (case kB => exact locs rfl); (case c2 => exact rfl); (case c3 => exact rfl); (case c4 => exact rfl); k_whole; intro g' L' h' FG' F' N' B' X' T'; (try dsimp only))
  k_steps
  rename Fr h₀ _ _ _ => kF; rename News h₀ _ _ _ => kN
  exact ret _ _ _ kF kN
end Mine

namespace Mine
set_option maxHeartbeats 8000000
theorem word_code (w : World) (dp un : Nat) (gd : Option (List Code)) (cn : Str) (cs : Scope) (a : Addr) (ccd : Value) (cl : List (Str × Addr)) (outer : List Env) (A₀ : Around) (base h₀ : Heap) (L : Addr) (m : Str → Option Value) (s : Shared) (p : Program) (loose : List Str) (mean : ExcName → Option Value) (mg mb : Str → Option Value)
    (Rr : Result → Shared → Prop)
    (B : Below A₀ base outer h₀) (F : Fr h₀ L s.heap m) (X : (wPart w.params).In h₀) (T : Top p loose mean mg mb h₀) (hk : cs.kind = .function)
    (hcd : CodeHd base 116 112) (hd : dp + 40 < 1000) (hu : un + 500 < 9900)
  (R : List (Addr × Obj)) {q r mn : Nat} {tx : Tok} {tm : Tok} (N : News h₀ L s.heap R) (hq : q < 4) (hr : r < 30) (hmn : mn < 3)
  (ret : ∀ h' tk' t, Fr h₀ L h' m → News h₀ L h' R → Rr (.ok (.ret (.str (strOf (wordL mn (repL q r))) t))) { s with heap := h', toks := tk' }) :
    codeAny (model P1 w) (ktrTop dp un gd cn cs L a ccd cl outer) (.call (.ref 122) ⟨[.str (rep q r) tx, .int mn tm], []⟩) Rr s := by
  have e3 := rep_len20 hq hr
  have hm : mn = 0 ∨ mn = 1 ∨ mn = 2 := by omega
  rcases hm with rfl | rfl | rfl
  · rw [show strOf (wordL 0 (repL q r)) = _ from (word0_text (rep q r)).symm] at ret
    have e4 := repl1_len (rep q r)
    have e5 := repl2_len (Txt.replace (rep q r) (Str.ofString "\\") (Str.ofString "\\\\"))
    exact word0_code w dp un gd cn cs a ccd cl outer A₀ base h₀ L m s p loose mean mg mb Rr B F X T hk hcd hd hu R N e3 (by omega) (by omega) ret
  · rw [show strOf (wordL 1 (repL q r)) = _ from (word1_text (rep q r)).symm] at ret
    exact word1_code w dp un gd cn cs a ccd cl outer A₀ base h₀ L m s p loose mean mg mb Rr B F X T hk hcd hd hu R N e3 ret
  · rw [show strOf (wordL 2 (repL q r)) = _ from (word2_text (rep q r)).symm] at ret
    exact word2_code w dp un gd cn cs a ccd cl outer A₀ base h₀ L m s p loose mean mg mb Rr B F X T hk hcd hd hu R N e3 ret
end Mine

namespace Mine
set_option maxHeartbeats 8000000
theorem newsTail {h₀ h : Heap} {L : Addr} {p : Addr × Obj} {R : List (Addr × Obj)} (N : News h₀ L h (p :: R)) : News h₀ L h R := fun q hq => N q (.tail _ hq)
theorem setBack1 {m1 : Str → Option Value} {x : Str} {v : Value} (h : m1 x = some v) : m1 = fun y => if y = x then some v else m1 y := by
  funext y
  by_cases e : y = x
  · rw [if_pos e, e, h]
  · rw [if_neg e]
theorem setBack4 {m1 : Str → Option Value} {x1 x2 x3 x4 : Str} {v1 v2 v3 v4 : Value} (h1 : m1 x1 = some v1) (h2 : m1 x2 = some v2) (h3 : m1 x3 = some v3) (h4 : m1 x4 = some v4) :
    m1 = fun y => if y = x1 then some v1 else if y = x2 then some v2 else if y = x3 then some v3 else if y = x4 then some v4 else m1 y := by
  funext y
  by_cases e1 : y = x1
  · rw [if_pos e1, e1, h1]
  rw [if_neg e1]
  by_cases e2 : y = x2
  · rw [if_pos e2, e2, h2]
  rw [if_neg e2]
  by_cases e3 : y = x3
  · rw [if_pos e3, e3, h3]
  rw [if_neg e3]
  by_cases e4 : y = x4
  · rw [if_pos e4, e4, h4]
  rw [if_neg e4]
noncomputable def Inv257 (g : Heap) (L : Addr) (news : List (Addr × Obj)) (gw : Str) (gL rest l : List Nat) (h : Heap) (m1 : Str → Option Value) (acc : List Nat) (i : Nat) : Prop :=
  Fr g L h m1 ∧ News g L h news ∧ (∃ t, m1 "resp" = some (.str gw t)) ∧ (∃ t, m1 "dirname" = some (.str (strOf acc) t)) ∧ (∃ t, m1 "i" = some (.int (i : Nat) t)) ∧ (∃ t, m1 "n" = some (.int (gw.length : Nat) t)) ∧
    gw.cps.toList.drop i = l ++ 34 :: 32 :: rest ∧ acc ++ l = gL
theorem loop257 {prog : Program} {w : World} {A : Around} {E : Value → Shared → Prop} {env : Env} {test : PySem.Expr} {body orelse : List Stmt} {Q : Flow → Shared → Prop} {s : Shared} {g : Heap} {L : Addr} {news : List (Addr × Obj)} {gw : Str} {gL rest : List Nat}
    (zero : ∀ h tk m1 acc i, Inv257 g L news gw gL rest [] h m1 acc i → WhlRest prog w A E env test body orelse Q 100 { s with heap := h, toks := tk })
    (succ : ∀ c r h tk m1 acc i, Inv257 g L news gw gL rest (c :: r) h m1 acc i → (∀ h' tk' m1', Inv257 g L news gw gL rest r h' m1' (acc ++ [c]) (i + 1) → WhlRest prog w A E env test body orelse Q 100 { s with heap := h', toks := tk' }) →
      WhlRest prog w A E env test body orelse Q 100 { s with heap := h, toks := tk }) :
    ∀ l h tk m1 acc i, Inv257 g L news gw gL rest l h m1 acc i → WhlRest prog w A E env test body orelse Q 100 { s with heap := h, toks := tk }
  | [], h, tk, m1, acc, i, H => zero h tk m1 acc i H
  | c :: r, h, tk, m1, acc, i, H => succ c r h tk m1 acc i H fun h' tk' m1' H' => loop257 zero succ r h' tk' m1' _ _ H'
local macro_rules | `(tactic| walk_at "call ref") => `(tactic| (k_here; (try dsimp only [List.append_nil, List.cons_append, List.nil_append]); (with_reducible show wpAny _ _ (call (Value.ref 93) [Value.ref _]) _ _ _); k_dflt (refine' wpAny_call (getpop_code _ _ _ _ _ _ _ _ _ _ _ _ _ _ _ _ _ _ _ _ _ _ ?B ?F ?X ?T ?hk ?hcd ?hd ?hu _ ?N ?i1 ?i2 ?hoff ?hvs ?_); (case B => k_asm); (case F => k_asm); (case X => k_asm); (case T => k_asm); (case hk => first | rfl | assumption); (case hcd => assumption); (case N => k_asm); (case i1 => k_mem); (case i2 => k_mem); (case hoff => assumption); (case hvs => first | assumption | decide | omega); (case hd => show _ + 40 < 1000; (try dsimp only [ktrTop]); omega); (case hu => show _ + 500 < 9900; (try dsimp only [ktrTop]); omega); k_whole; intro h' tk' k' F' N'; (try dsimp only at N'); (try k_sweep))))
local macro_rules | `(tactic| walk_at "ite") => `(tactic| first | refine ite_neg (by rw [Bool.not_eq_true]; with_reducible assumption) ?_ | refine ite_pos (by with_reducible assumption) ?_ | refine ite_neg (by omega) ?_ | refine ite_pos (by omega) ?_)
noncomputable def Stop2 (P : Prop) : Prop := P
theorem Stop2.go {P : Prop} (h : Stop2 P) : P := h
local macro_rules | `(tactic| walk_at "exec") => `(tactic| ((with_reducible show wpAny _ _ (exec (PySem.Stmt.While _ _ _ _) _) _ _ _); refine whl_start 100 ?_; refine Stop2.go ?_))
local macro_rules | `(tactic| walk_at "exec While") => `(tactic| ((with_reducible show wpAny _ _ (exec (PySem.Stmt.While _ _ _ _) _) _ _ _); refine whl_start 100 ?_; refine Stop2.go ?_))
local macro_rules | `(tactic| walk_at "exec While Compare") => `(tactic| ((with_reducible show wpAny _ _ (exec (PySem.Stmt.While _ _ _ _) _) _ _ _); refine whl_start 100 ?_; refine Stop2.go ?_))
local macro_rules | `(tactic| walk_at "exec While Compare cons nil") => `(tactic| ((with_reducible show wpAny _ _ (exec (PySem.Stmt.While _ _ _ _) _) _ _ _); refine whl_start 100 ?_; refine Stop2.go ?_))
local macro_rules | `(tactic| walk_at "WhlRest") => `(tactic| refine Stop2.go ?_)
open PySem.StrLaws PySem.Builtin PySem.Builtin.Str in
theorem item_at {x : Str} {i c : Nat} {r : List Nat} (h : x.cps.toList.drop i = c :: r) : Txt.item x (i : Int) = strOf [c] := by
  have e : x.cps[i]? = some c := by
    have z : x.cps.toList[i]? = some c := by
      have := congrArg (fun l : List Nat => l[0]?) h
      simpa using this
    simpa using z
  unfold Txt.item
  have : Txt.charAt x (i : Int) = some c := by
    have hl : i < x.length := by
      have := (Array.getElem?_eq_some_iff.mp e).1
      exact this
    unfold Txt.charAt PySem.seqIndex?
    have h1 : ¬ ((i : Int) < 0) := by omega
    simp [h1, hl, e]
  rw [this]
  rfl
theorem drop_len {l : List Nat} {i : Nat} {k r : List Nat} (h : l.drop i = k ++ r) : i + k.length + r.length ≤ l.length ∨ k ++ r = [] := by
  have := congrArg List.length h
  rw [List.length_drop, List.length_append] at this
  by_cases z : k ++ r = []
  · exact .inr z
  · left
    have : 0 < (k ++ r).length := List.length_pos_iff.mpr z
    rw [List.length_append] at this
    omega
local macro_rules | `(tactic| walk_at "WhlIf") => `(tactic| refine WhlIf.yes (decide_eq_true (by omega)) ?_)
local macro_rules | `(tactic| walk_at "subscriptTail") => `(tactic| (k_here; (with_reducible show wpAny _ _ (subscriptTail _ _ (Value.str _ _) (Value.int _ _)) _ _ _); (refine KXi.item rfl ?k1 ?k2 ?k3 ?_; (case k1 => omega); (case k2 => omega); (case k3 => omega)); intro kxiE))
theorem stE : Str.ofString "\"" = strOf [34] := by decide +kernel
theorem back0_code (w : World) (dp un : Nat) (gd : Option (List Code)) (cn : Str) (cs : Scope) (a : Addr) (ccd : Value) (cl : List (Str × Addr)) (outer : List Env) (A₀ : Around) (base h₀ : Heap) (L : Addr) (m : Str → Option Value) (s : Shared) (p : Program) (loose : List Str) (mean : ExcName → Option Value) (mg mb : Str → Option Value)
    (Rr : Result → Shared → Prop)
    (B : Below A₀ base outer h₀) (F : Fr h₀ L s.heap m) (X : (wPart w.params).In h₀) (T : Top p loose mean mg mb h₀) (hk : cs.kind = .function)
    (hcd : CodeHd base 116 112) (hd : dp + 60 < 1000) (hu : un + 600 < 9900) (XB : (wPart w.params).In base) (TB : Top p loose mean mg mb base) (D : KtsDicts (outer.filterMap (·.frame)) h₀)
  (R : List (Addr × Obj)) {lx dx st pb : Addr} {gw : Str} {tg : Tok} {kp : Nat} {n : Int} {tn t1 t2 t3 t4 t5 : Tok} (N : News h₀ L s.heap ((pb, W.listOf [Value.str gw tg].toArray kp) :: R)) (i1 : (lx, instObj 103 dx) ∈ R) (i2 : (dx, lexD w n tn st pb t1 t2 t3 t4 t5) ∈ R)
  (hoff : OwnOff R [pb]) (hlen : 6 ≤ gw.length ∧ gw.length ≤ 100) (e1 : (Txt.slice gw none (some 3) != Str.ofString "229") = true) (e2 : (Txt.slice gw none (some 3) != Str.ofString "257") = false) (e3 : (Txt.slice gw (some 3) (some 5) != Str.ofString " \"") = false) {gL rest : List Nat} {y : Int} (hg : gw.cps.toList.drop 5 = gL ++ 34 :: 32 :: rest) (hgq : ∀ c ∈ gL, c ≠ 34) (hgi : PySem.intText? (strOf gL) = some y)
  (ret : ∀ h₀' h' tk' t k', KtsTurn (outer.filterMap (·.frame)) h₀ h₀' → Below A₀ base outer h₀' → (wPart w.params).In h₀' → Top p loose mean mg mb h₀' → KtsDicts (outer.filterMap (·.frame)) h₀' → Fr h₀' L h' m → News h₀' L h' ((pb, W.listOf #[] k') :: R) → Rr (.ok (.ret (.int y t))) { s with heap := h', toks := tk' }) :
    codeAny (model P1 w) (ktrTop dp un gd cn cs L a ccd cl outer) (.call (.ref 143) ⟨[.ref lx], []⟩) Rr s := by
  k_dflt (refine' code_defSX ?k1 ?k2 ?k3 ?k4 ?k5 ?XB ?TB ?D ?T0 ?kA ?kF ?kK ?k6 ?k7 ?k8 ?k9 ?kB ?_ ?c2 ?c3 ?c4 ?c5; (case kA => exact rfl); (case kF => exact rfl); (case kK => assumption); (case k2 => k_asm); (case k1 => k_asm); (case XB => assumption); (case TB => assumption); (case D => assumption); (case T0 => exact KtsTurn.refl); (case k3 => k_asm); (case k4 => k_asm); (case k5 => k_asm); (case k6 => k_is); (case k7 => k_is); (case k8 => show _ < 1000; dsimp only [ktrTop]; omega); (case k9 => exact BindsTo.of_eq rfl); (case kB => exact locs rfl); (case c2 => exact rfl); (case c3 => exact rfl); (case c4 => exact rfl); (case c5 => decide); k_whole; intro g' L' h' FG' F' N' B' X' T' D'; (try dsimp only))
  k_steps
  unfold Stop2
  rename Fr _ _ _ _ => kF; rename News _ _ _ _ => kN
  refine loop257 (s := s) (gL := gL) ?z ?s gL _ _ _ [] 5 ⟨kF, kN, ⟨_, rfl⟩, ⟨_, rfl⟩, ⟨_, rfl⟩, ⟨_, rfl⟩, hg, rfl⟩
  case z =>
    clear kF kN
    rintro h9 tk9 m9 acc i ⟨F9, N9, ⟨u1, hm1⟩, ⟨u2, hm2⟩, ⟨u3, hm3⟩, ⟨u4, hm4⟩, hdr, hacc⟩
    rw [setBack4 hm1 hm2 hm3 hm4] at F9
    have hl : i + 1 < gw.length := by
      have := drop_len hdr
      simp only [List.nil_append, List.length_cons, List.length_nil] at this
      have e : gw.cps.toList.length = gw.length := by simp [Str.length]
      rcases this with z | z
      · omega
      · cases z
    have q1 : (Txt.item gw (i : Int) == Str.ofString "\"") = true := by rw [item_at hdr, stE]; exact beq_self_eq_true _
    have q2 : (Txt.item gw ((i : Int) + 1) != Str.ofString "\"") = true := by
      rw [show ((i : Int) + 1) = ((i + 1 : Nat) : Int) from rfl, item_at (drop_tail hdr), stE]; decide
    rw [List.append_nil] at hacc
    rw [hacc] at F9
    have hgl : (strOf gL).length ≤ 100 := by
      have z2 := congrArg List.length hg
      have e : gw.cps.toList.length = gw.length := by simp [Str.length]
      simp only [List.length_append, List.length_cons, List.length_drop] at z2
      have z3 : (strOf gL).length = gL.length := by simp [Str.length]
      omega
    refine' whl_turn ?hE ?_; (case hE => first | passes_own | with_unfolding_all passes_own)
    k_steps
    rename Fr _ L _ m => kF; rename News _ L _ _ => kN
    refine ret _ _ _ _ _ (by assumption) (by assumption) (by assumption) (by assumption) (by assumption) kF (newsTail kN)
  case s =>
    clear kF kN
    rintro c r h9 tk9 m9 acc i ⟨F9, N9, ⟨u1, hm1⟩, ⟨u2, hm2⟩, ⟨u3, hm3⟩, ⟨u4, hm4⟩, hdr, hacc⟩ IH
    rw [setBack4 hm1 hm2 hm3 hm4] at F9
    have hl : i + 1 < gw.length := by
      have := drop_len hdr
      simp only [List.length_append, List.length_cons] at this
      have e : gw.cps.toList.length = gw.length := by simp [Str.length]
      rcases this with z | z
      · omega
      · cases z
    have hcq : c ≠ 34 := hgq c (by rw [← hacc]; exact List.mem_append_right _ (.head _))
    have hit := item_at hdr
    have q1 : (Txt.item gw (i : Int) == Str.ofString "\"") = false := by
      rw [hit, stE]
      refine beq_eq_false_iff_ne.mpr fun e => hcq ?_
      have z := congrArg (fun x : Str => x.cps.toList) e
      simpa using z
    have ha1 : (strOf acc).length ≤ 100 := by
      have e : gw.cps.toList.length = gw.length := by simp [Str.length]
      have z := congrArg List.length hacc
      have z2 := congrArg List.length hg
      simp only [List.length_append, List.length_cons, List.length_drop] at z z2
      have z3 : (strOf acc).length = acc.length := by simp [Str.length]
      omega
    have hi1 : (Txt.item gw (i : Int)).length = 1 := by rw [hit]; rfl
    refine' whl_turn ?hE ?_; (case hE => first | passes_own | with_unfolding_all passes_own)
    k_steps
    unfold Stop2
    rename Fr _ _ _ _ => kF; rename News _ _ _ _ => kN
    refine IH _ _ _ ⟨kF, kN, ⟨_, rfl⟩, ⟨?tt, ?ee⟩, ⟨_, rfl⟩, ⟨_, rfl⟩, drop_tail hdr, by rw [List.append_assoc]; exact hacc⟩
    case ee =>
     rw [show strOf (acc ++ [c]) = strOf acc ++ Txt.item gw (i : Int) by rw [hit]; exact strOf_app.symm]
     rfl
end Mine

namespace Mine
set_option maxHeartbeats 2000000
theorem newsTail2 {h₀ h : Heap} {L : Addr} {p : Addr × Obj} {R : List (Addr × Obj)} (N : News h₀ L h (p :: R)) : News h₀ L h R := fun q hq => N q (.tail _ hq)
/-- what the call of _law_back gives from any frame, the pushback holding vs -/
noncomputable def BackOK (w : World) (vs : List Value) (y : Int) (nn : Nat) : Prop :=
  ∀ (dp un : Nat) (gd : Option (List Code)) (cn : Str) (cs : Scope) (a : Addr) (ccd : Value) (cl : List (Str × Addr)) (outer : List Env) (A₀ : Around) (base h₀ : Heap) (L : Addr) (m : Str → Option Value) (s : Shared) (p : Program) (loose : List Str) (mean : ExcName → Option Value) (mg mb : Str → Option Value)
    (Rr : Result → Shared → Prop)
    (_B : Below A₀ base outer h₀) (_F : Fr h₀ L s.heap m) (_X : (wPart w.params).In h₀) (_T : Top p loose mean mg mb h₀) (_hk : cs.kind = .function)
    (_hcd : CodeHd base 116 112) (_hd : dp + 60 + nn < 1000) (_hu : un + 600 + 10 * nn < 9900) (_XB : (wPart w.params).In base) (_TB : Top p loose mean mg mb base) (_D : KtsDicts (outer.filterMap (·.frame)) h₀)
    (R : List (Addr × Obj)) {lx dx st pb : Addr} {kp : Nat} {n : Int} {tn t1 t2 t3 t4 t5 : Tok} (_N : News h₀ L s.heap ((pb, W.listOf vs.toArray kp) :: R)) (_i1 : (lx, instObj 103 dx) ∈ R) (_i2 : (dx, lexD w n tn st pb t1 t2 t3 t4 t5) ∈ R)
    (_hoff : OwnOff R [pb])
    (_ret : ∀ h₀' h' tk' t k', KtsTurn (outer.filterMap (·.frame)) h₀ h₀' → Below A₀ base outer h₀' → (wPart w.params).In h₀' → Top p loose mean mg mb h₀' → KtsDicts (outer.filterMap (·.frame)) h₀' → Fr h₀' L h' m → News h₀' L h' ((pb, W.listOf #[] k') :: R) → Rr (.ok (.ret (.int y t))) { s with heap := h', toks := tk' }),
    codeAny (model P1 w) (ktrTop dp un gd cn cs L a ccd cl outer) (.call (.ref 143) ⟨[.ref lx], []⟩) Rr s
theorem ok15 {w : World} {gw : Str} {tg : Tok} (hlen : 6 ≤ gw.length ∧ gw.length ≤ 100) (e1 : (Txt.slice gw none (some 3) != Str.ofString "229") = true) (e2 : (Txt.slice gw none (some 3) != Str.ofString "257") = false) (e3 : (Txt.slice gw (some 3) (some 5) != Str.ofString " \"") = false) {gL rest : List Nat} {y : Int} (hg : gw.cps.toList.drop 5 = gL ++ 34 :: 32 :: rest) (hgq : ∀ c ∈ gL, c ≠ 34) (hgi : PySem.intText? (strOf gL) = some y) : BackOK w [.str gw tg] y 0 := by
  intro dp un gd cn cs a ccd cl outer A₀ base h₀ L m s p loose mean mg mb Rr B F X T hk hcd hd hu XB TB D R lx dx st pb kp n tn t1 t2 t3 t4 t5 N i1 i2 hoff ret
  exact back0_code w dp un gd cn cs a ccd cl outer A₀ base h₀ L m s p loose mean mg mb Rr B F X T hk hcd (by omega) (by omega) XB TB D R N i1 i2 hoff hlen e1 e2 e3 hg hgq hgi ret
theorem backok_use {w : World} {vs : List Value} {y : Int} {nn : Nat} (H : BackOK w vs y nn) {dp un : Nat} {gd : Option (List Code)} {cn : Str} {cs : Scope} {a : Addr} {ccd : Value} {cl : List (Str × Addr)} {outer : List Env} {A₀ : Around} {base h₀ : Heap} {L : Addr} {m : Str → Option Value} {s : Shared} {p : Program} {loose : List Str} {mean : ExcName → Option Value} {mg mb : Str → Option Value}
    {Rr : Result → Shared → Prop}
    (B : Below A₀ base outer h₀) (F : Fr h₀ L s.heap m) (X : (wPart w.params).In h₀) (T : Top p loose mean mg mb h₀) (hk : cs.kind = .function)
    (hcd : CodeHd base 116 112) (hd : dp + 60 + nn < 1000) (hu : un + 600 + 10 * nn < 9900) (XB : (wPart w.params).In base) (TB : Top p loose mean mg mb base) (D : KtsDicts (outer.filterMap (·.frame)) h₀)
    {R : List (Addr × Obj)} {lx dx st pb : Addr} {kp : Nat} {n : Int} {tn t1 t2 t3 t4 t5 : Tok} (N : News h₀ L s.heap ((pb, W.listOf vs.toArray kp) :: R)) (i1 : (lx, instObj 103 dx) ∈ R) (i2 : (dx, lexD w n tn st pb t1 t2 t3 t4 t5) ∈ R)
    (hoff : OwnOff R [pb])
    (ret : ∀ h₀' h' tk' t k', KtsTurn (outer.filterMap (·.frame)) h₀ h₀' → Below A₀ base outer h₀' → (wPart w.params).In h₀' → Top p loose mean mg mb h₀' → KtsDicts (outer.filterMap (·.frame)) h₀' → Fr h₀' L h' m → News h₀' L h' ((pb, W.listOf #[] k') :: R) → Rr (.ok (.ret (.int y t))) { s with heap := h', toks := tk' }) :
    codeAny (model P1 w) (ktrTop dp un gd cn cs L a ccd cl outer) (.call (.ref 143) ⟨[.ref lx], []⟩) Rr s :=
  H dp un gd cn cs a ccd cl outer A₀ base h₀ L m s p loose mean mg mb Rr B F X T hk hcd hd hu XB TB D R N i1 i2 hoff ret
local macro_rules | `(tactic| walk_at "call ref") => `(tactic| (k_here; (try dsimp only [List.append_nil, List.cons_append, List.nil_append]); (with_reducible show wpAny _ _ (call (Value.ref 93) [Value.ref _]) _ _ _); k_dflt (refine' wpAny_call (getpop_code _ _ _ _ _ _ _ _ _ _ _ _ _ _ _ _ _ _ _ _ _ _ ?B ?F ?X ?T ?hk ?hcd ?hd ?hu _ ?N ?i1 ?i2 ?hoff ?hvs ?_); (case B => k_asm); (case F => k_asm); (case X => k_asm); (case T => k_asm); (case hk => first | rfl | assumption); (case hcd => assumption); (case N => k_asm); (case i1 => k_mem); (case i2 => k_mem); (case hoff => assumption); (case hvs => first | assumption | decide | omega); (case hd => show _ + 40 < 1000; (try dsimp only [ktrTop]); omega); (case hu => show _ + 500 < 9900; (try dsimp only [ktrTop]); omega); k_whole; intro h' tk' k' F' N'; (try dsimp only at N'); (try k_sweep))))
local macro_rules | `(tactic| walk_at "ite") => `(tactic| first | refine ite_neg (by rw [Bool.not_eq_true]; with_reducible assumption) ?_ | refine ite_pos (by with_reducible assumption) ?_ | refine ite_neg (by omega) ?_ | refine ite_pos (by omega) ?_)
local macro_rules | `(tactic| walk_at "subscriptTail Name Constant str int") => `(tactic| (k_here; (with_reducible show wpAny _ _ (subscriptTail _ _ (Value.str _ _) (Value.int _ _)) _ _ _); (refine KXi.item rfl ?k1 ?k2 ?k3 ?_; (case k1 => omega); (case k2 => omega); (case k3 => omega)); intro kxiE; (with_reducible rename Txt.item _ 5 = _ => zzE); rw [zzE]))
local macro_rules | `(tactic| walk_at "call ref") => `(tactic| (k_here; (try dsimp only [List.append_nil, List.cons_append, List.nil_append]); (with_reducible show wpAny _ _ (call (Value.ref 58) [Value.str _ _, Value.ref _]) _ _ _); (with_reducible rename Good _ _ _ _ _ => ggG); k_dflt (refine' wpAny_call (p229_code _ _ _ _ _ _ _ _ _ _ _ _ _ _ _ _ _ _ _ _ _ _ ?B ?F ?X ?T ?hk ?hcd ?hd ?hu _ ?N ?ip ggG.len.1 ggG.len.2.1 ggG.e1 ggG.e2 ggG.e3 ggG.len.2.2.1 ggG.len.2.2.2 ggG.e4 ggG.e5 ggG.e6 ggG.e7 ggG.e8 ggG.e9 ?_); (case B => k_asm); (case F => k_asm); (case X => k_asm); (case T => k_asm); (case hk => first | rfl | assumption); (case hcd => assumption); (case N => k_asm); (case ip => exact .head _); (case hd => show _ + 40 < 1000; (try dsimp only [ktrTop]); omega); (case hu => show _ + 500 < 9900; (try dsimp only [ktrTop]); omega); k_whole; intro h' tk' o' u1 u2 l1 F' N'; (try k_lt l1); (try dsimp only at N'); (try k_sweep))))
local macro_rules | `(tactic| walk_at "call ref") => `(tactic| (k_here; (try dsimp only [List.append_nil, List.cons_append, List.nil_append]); (with_reducible show wpAny _ _ (call (Value.ref 143) [Value.ref _]) _ _ _); (with_reducible rename BackOK _ _ _ _ => bkH); k_dflt (refine' wpAny_call (backok_use bkH ?B ?F ?X ?T ?hk ?hcd ?hd ?hu ?XB ?TB ?D ?N ?i1 ?i2 ?hoff ?_); (case B => k_asm); (case F => k_asm); (case X => k_asm); (case T => k_asm); (case hk => first | rfl | assumption); (case hcd => assumption); (case XB => assumption); (case TB => assumption); (case D => assumption); (case hoff => assumption); (case N => first | exact newsTail2 (newsTail2 (by with_reducible assumption)) | exact newsTail2 (by with_reducible assumption) | with_reducible assumption); (case i1 => k_mem); (case i2 => k_mem); (case hd => show _ + 60 + _ < 1000; (try dsimp only [ktrTop]); omega); (case hu => show _ + 600 + 10 * _ < 9900; (try dsimp only [ktrTop]); omega); k_whole; intro kg h' tk' t' k' kT kB kX₀ kP kD kF kN; (have kX := kFor kF kX₀); (try k_lift kB); (try dsimp only at kN); (try k_sweep))))
local macro_rules | `(tactic| walk_at "binaryOp Mult int int") => `(tactic| refine PyProof.Rows.mul_int ?_ (mulS (by omega) (by omega)))
local macro_rules | `(tactic| walk_at "binaryOp FloorDiv int int") => `(tactic| refine PyProof.Rows.floordiv_int (by omega) ?_ (Or.inl (PyProof.noPylong_small (by omega))))
theorem back1_0 {w : World} {r : Nat} {tx : Tok} {vs : List Value} {b : Int} {nn : Nat} {parts : List Str} {rt : Int} (G : Good (rep 0 r) (portS r) parts rt ((r : Int) + 1)) (hr : r < 30) (hi5 : Txt.item (rep 0 r) 5 = Str.ofString "+") (H : BackOK w vs b nn) (hvs : vs.length ≤ 20) : BackOK w (.str (rep 0 r) tx :: vs) (b - (r + 1)) (nn + 1) := by
  intro dp un gd cn cs a ccd cl outer A₀ base h₀ L m s p loose mean mg mb Rr B F X T hk hcd hd hu XB TB D R lx dx st pb kp n tn t1 t2 t3 t4 t5 N i1 i2 hoff ret
  have hvs2 : vs.length ≤ 100 := by omega
  have hl1 := G.len.1
  have hl2 := G.len.2.1
  k_dflt (refine' code_defSX ?k1 ?k2 ?k3 ?k4 ?k5 ?XB ?TB ?D ?T0 ?kA ?kF ?kK ?k6 ?k7 ?k8 ?k9 ?kB ?_ ?c2 ?c3 ?c4 ?c5; (case kA => exact rfl); (case kF => exact rfl); (case kK => assumption); (case k2 => k_asm); (case k1 => k_asm); (case XB => assumption); (case TB => assumption); (case D => assumption); (case T0 => exact KtsTurn.refl); (case k3 => k_asm); (case k4 => k_asm); (case k5 => k_asm); (case k6 => k_is); (case k7 => k_is); (case k8 => show _ < 1000; dsimp only [ktrTop]; omega); (case k9 => exact BindsTo.of_eq rfl); (case kB => exact locs rfl); (case c2 => exact rfl); (case c3 => exact rfl); (case c4 => exact rfl); (case c5 => decide); k_whole; intro g' L' h' FG' F' N' B' X' T' D'; (try dsimp only))
  k_steps
  rename Fr _ L _ m => kF; rename News _ L _ _ => kN
  exact ret _ _ _ _ _ (by assumption) (by assumption) (by assumption) (by assumption) (by assumption) kF kN
theorem back1_1 {w : World} {r : Nat} {tx : Tok} {vs : List Value} {b : Int} {nn : Nat} {parts : List Str} {rt : Int} (G : Good (rep 1 r) (portS r) parts rt ((r : Int) + 1)) (hr : r < 30) (hi5 : Txt.item (rep 1 r) 5 = Str.ofString "-") (H : BackOK w vs b nn) (hvs : vs.length ≤ 20) : BackOK w (.str (rep 1 r) tx :: vs) (b + (r + 1)) (nn + 1) := by
  intro dp un gd cn cs a ccd cl outer A₀ base h₀ L m s p loose mean mg mb Rr B F X T hk hcd hd hu XB TB D R lx dx st pb kp n tn t1 t2 t3 t4 t5 N i1 i2 hoff ret
  have hvs2 : vs.length ≤ 100 := by omega
  have hl1 := G.len.1
  have hl2 := G.len.2.1
  k_dflt (refine' code_defSX ?k1 ?k2 ?k3 ?k4 ?k5 ?XB ?TB ?D ?T0 ?kA ?kF ?kK ?k6 ?k7 ?k8 ?k9 ?kB ?_ ?c2 ?c3 ?c4 ?c5; (case kA => exact rfl); (case kF => exact rfl); (case kK => assumption); (case k2 => k_asm); (case k1 => k_asm); (case XB => assumption); (case TB => assumption); (case D => assumption); (case T0 => exact KtsTurn.refl); (case k3 => k_asm); (case k4 => k_asm); (case k5 => k_asm); (case k6 => k_is); (case k7 => k_is); (case k8 => show _ < 1000; dsimp only [ktrTop]; omega); (case k9 => exact BindsTo.of_eq rfl); (case kB => exact locs rfl); (case c2 => exact rfl); (case c3 => exact rfl); (case c4 => exact rfl); (case c5 => decide); k_whole; intro g' L' h' FG' F' N' B' X' T' D'; (try dsimp only))
  k_steps
  rename Fr _ L _ m => kF; rename News _ L _ _ => kN
  exact ret _ _ _ _ _ (by assumption) (by assumption) (by assumption) (by assumption) (by assumption) kF kN
theorem back1_2 {w : World} {r : Nat} {tx : Tok} {vs : List Value} {b : Int} {nn : Nat} {parts : List Str} {rt : Int} (G : Good (rep 2 r) (portS r) parts rt ((r : Int) + 1)) (hr : r < 30) (hi5 : Txt.item (rep 2 r) 5 = Str.ofString "*") (H : BackOK w vs b nn) (hvs : vs.length ≤ 20) : BackOK w (.str (rep 2 r) tx :: vs) (-((-b).fdiv (r + 1))) (nn + 1) := by
  intro dp un gd cn cs a ccd cl outer A₀ base h₀ L m s p loose mean mg mb Rr B F X T hk hcd hd hu XB TB D R lx dx st pb kp n tn t1 t2 t3 t4 t5 N i1 i2 hoff ret
  have hvs2 : vs.length ≤ 100 := by omega
  have hl1 := G.len.1
  have hl2 := G.len.2.1
  k_dflt (refine' code_defSX ?k1 ?k2 ?k3 ?k4 ?k5 ?XB ?TB ?D ?T0 ?kA ?kF ?kK ?k6 ?k7 ?k8 ?k9 ?kB ?_ ?c2 ?c3 ?c4 ?c5; (case kA => exact rfl); (case kF => exact rfl); (case kK => assumption); (case k2 => k_asm); (case k1 => k_asm); (case XB => assumption); (case TB => assumption); (case D => assumption); (case T0 => exact KtsTurn.refl); (case k3 => k_asm); (case k4 => k_asm); (case k5 => k_asm); (case k6 => k_is); (case k7 => k_is); (case k8 => show _ < 1000; dsimp only [ktrTop]; omega); (case k9 => exact BindsTo.of_eq rfl); (case kB => exact locs rfl); (case c2 => exact rfl); (case c3 => exact rfl); (case c4 => exact rfl); (case c5 => decide); k_whole; intro g' L' h' FG' F' N' B' X' T' D'; (try dsimp only))
  k_steps
  rename Fr _ L _ m => kF; rename News _ L _ _ => kN
  exact ret _ _ _ _ _ (by assumption) (by assumption) (by assumption) (by assumption) (by assumption) kF kN
theorem back1_3 {w : World} {r : Nat} {tx : Tok} {vs : List Value} {b : Int} {nn : Nat} {parts : List Str} {rt : Int} (G : Good (rep 3 r) (portS r) parts rt ((r : Int) + 1)) (hr : r < 30) (hi5 : Txt.item (rep 3 r) 5 = Str.ofString "/") (H : BackOK w vs b nn) (hvs : vs.length ≤ 20) : BackOK w (.str (rep 3 r) tx :: vs) (b * (r + 1)) (nn + 1) := by
  intro dp un gd cn cs a ccd cl outer A₀ base h₀ L m s p loose mean mg mb Rr B F X T hk hcd hd hu XB TB D R lx dx st pb kp n tn t1 t2 t3 t4 t5 N i1 i2 hoff ret
  have hvs2 : vs.length ≤ 100 := by omega
  have hl1 := G.len.1
  have hl2 := G.len.2.1
  k_dflt (refine' code_defSX ?k1 ?k2 ?k3 ?k4 ?k5 ?XB ?TB ?D ?T0 ?kA ?kF ?kK ?k6 ?k7 ?k8 ?k9 ?kB ?_ ?c2 ?c3 ?c4 ?c5; (case kA => exact rfl); (case kF => exact rfl); (case kK => assumption); (case k2 => k_asm); (case k1 => k_asm); (case XB => assumption); (case TB => assumption); (case D => assumption); (case T0 => exact KtsTurn.refl); (case k3 => k_asm); (case k4 => k_asm); (case k5 => k_asm); (case k6 => k_is); (case k7 => k_is); (case k8 => show _ < 1000; dsimp only [ktrTop]; omega); (case k9 => exact BindsTo.of_eq rfl); (case kB => exact locs rfl); (case c2 => exact rfl); (case c3 => exact rfl); (case c4 => exact rfl); (case c5 => decide); k_whole; intro g' L' h' FG' F' N' B' X' T' D'; (try dsimp only))
  k_steps
  rename Fr _ L _ m => kF; rename News _ L _ _ => kN
  exact ret _ _ _ _ _ (by assumption) (by assumption) (by assumption) (by assumption) (by assumption) kF kN
end Mine

namespace Mine
noncomputable def noExpr : PySem.Expr := .Name "_" ⟨0, 0, 0, 0⟩
noncomputable def forTgt : Stmt → PySem.Expr
  | .For t _ _ _ _ => t
  | _ => noExpr
noncomputable def forIter : Stmt → PySem.Expr
  | .For _ i _ _ _ => i
  | _ => noExpr
noncomputable def lawStmt : Stmt := PySem.Challenge.pw_tr0043_01.main.body.getD 63 noStmt
noncomputable def lawSt (k : Nat) : Stmt := (fnBody lawStmt).getD k noStmt
noncomputable def lawS0 : {x : Scope // x = fnScope lawStmt} := by
  refine ⟨?x, ?h⟩
  case h => (conv => rhs; whnf); try exact rfl
noncomputable def lawT10 : {x : PySem.Expr // x = forTgt (lawSt 3)} := by
  refine ⟨?x, ?h⟩
  case h => (conv => rhs; whnf); try exact rfl
noncomputable def lawB10 : {x : List Stmt // x = forBody (lawSt 3)} := by
  refine ⟨?x, ?h⟩
  case h => (conv => rhs; whnf); try exact rfl
noncomputable abbrev lawS : Scope := lawS0.1
noncomputable abbrev lawT1 : PySem.Expr := lawT10.1
noncomputable abbrev lawB1 : List Stmt := lawB10.1
end Mine

namespace Mine
noncomputable def lawSt50 : {x : Stmt // x = lawSt 5} := by
  refine ⟨?x, ?h⟩
  case h => (conv => rhs; whnf); try exact rfl
noncomputable def lawRest0 : {x : List Stmt // x = (fnBody lawStmt).drop 4} := by
  refine ⟨?x, ?h⟩
  case h => (conv => rhs; whnf); try exact rfl
noncomputable abbrev lawSt5 : Stmt := lawSt50.1
noncomputable abbrev lawRest : List Stmt := lawRest0.1
end Mine

namespace Mine
noncomputable def lawSt80 : {x : Stmt // x = lawSt 8} := by
  refine ⟨?x, ?h⟩
  case h => (conv => rhs; whnf); try exact rfl
noncomputable abbrev lawSt8 : Stmt := lawSt80.1
noncomputable def lawSt100 : {x : Stmt // x = lawSt 10} := by
  refine ⟨?x, ?h⟩
  case h => (conv => rhs; whnf); try exact rfl
noncomputable abbrev lawSt10 : Stmt := lawSt100.1
noncomputable def ifTest : Stmt → PySem.Expr
  | .If t _ _ _ => t
  | _ => noExpr
noncomputable def cmpRight : PySem.Expr → PySem.Expr
  | .Compare _ _ rs _ => rs.getD 0 noExpr
  | _ => noExpr
noncomputable def lawC90 : {x : PySem.Expr // x = cmpRight (ifTest (lawSt 9))} := by
  refine ⟨?x, ?h⟩
  case h => (conv => rhs; whnf); try exact rfl
noncomputable abbrev lawC9 : PySem.Expr := lawC90.1
end Mine

namespace Mine
noncomputable def lawEnd0 : {x : List Stmt // x = (fnBody lawStmt).drop 10} := by
  refine ⟨?x, ?h⟩
  case h => (conv => rhs; whnf); try exact rfl
noncomputable abbrev lawEnd : List Stmt := lawEnd0.1
noncomputable def lawG0 : {x : List Stmt // x = forBody (lawSt 10)} := by
  refine ⟨?x, ?h⟩
  case h => (conv => rhs; whnf); try exact rfl
noncomputable abbrev lawG : List Stmt := lawG0.1
noncomputable def lawGT0 : {x : PySem.Expr // x = forTgt (lawSt 10)} := by
  refine ⟨?x, ?h⟩
  case h => (conv => rhs; whnf); try exact rfl
noncomputable abbrev lawGT : PySem.Expr := lawGT0.1
noncomputable def binRight : PySem.Expr → PySem.Expr
  | .BinOp _ _ r _ => r
  | _ => noExpr
noncomputable def lawCap20 : {x : PySem.Expr // x = binRight (forIter (lawSt 10))} := by
  refine ⟨?x, ?h⟩
  case h => (conv => rhs; whnf); try exact rfl
noncomputable abbrev lawCap2 : PySem.Expr := lawCap20.1
noncomputable def lawCap30 : {x : PySem.Expr // x = binRight (forIter ((forBody (lawSt 10)).getD 3 noStmt))} := by
  refine ⟨?x, ?h⟩
  case h => (conv => rhs; whnf); try exact rfl
noncomputable abbrev lawCap3 : PySem.Expr := lawCap30.1
noncomputable def lawP0 : {x : Stmt // x = (forBody (lawSt 10)).getD 0 noStmt} := by
  refine ⟨?x, ?h⟩
  case h => (conv => rhs; whnf); try exact rfl
noncomputable abbrev lawP : Stmt := lawP0.1
noncomputable def lawN0 : {x : Stmt // x = (forBody (lawSt 10)).getD 3 noStmt} := by
  refine ⟨?x, ?h⟩
  case h => (conv => rhs; whnf); try exact rfl
noncomputable abbrev lawN : Stmt := lawN0.1
end Mine

namespace Mine
set_option maxHeartbeats 2000000
local macro_rules | `(tactic| walk_at "zzpad0") => `(tactic| skip)
theorem modV {prog : Program} {w : World} {A : Around} {E : Value → Shared → Prop} {s : Shared} {n k : Int} {t u : Tok} {Q : Value → Shared → Prop} (ek : k = 1000000) (h : Q (.int ((eOf n : Nat) : Int) s.toks) { s with toks := s.toks + 1 }) : wpAny (model prog w) A (binaryOp .Mod (.int n t) (.int k u)) Q E s := by
  subst ek
  refine PyProof.Rows.mod_int (by decide) ?_
  rw [← eOf_cast]; exact h
theorem modNat {prog : Program} {w : World} {A : Around} {E : Value → Shared → Prop} {s : Shared} {a : Nat} (k : Nat) {ki : Int} {t u : Tok} {Q : Value → Shared → Prop} (ek : ki = (k : Int)) (hk : ki ≠ 0) (h : Q (.int ((a % k : Nat) : Int) s.toks) { s with toks := s.toks + 1 }) : wpAny (model prog w) A (binaryOp .Mod (.int (a : Int) t) (.int ki u)) Q E s := by
  refine PyProof.Rows.mod_int hk ?_
  rw [ek, Int.fmod_eq_emod_of_nonneg _ (by omega)]; exact h
theorem divNat {prog : Program} {w : World} {A : Around} {E : Value → Shared → Prop} {s : Shared} {a : Nat} (k : Nat) {ki : Int} {t u : Tok} {Q : Value → Shared → Prop} (ek : ki = (k : Int)) (hk : ki ≠ 0) (hs : ki < 1000000) (h : Q (.int ((a / k : Nat) : Int) s.toks) { s with toks := s.toks + 1 }) : wpAny (model prog w) A (binaryOp .FloorDiv (.int (a : Int) t) (.int ki u)) Q E s := by
  refine PyProof.Rows.floordiv_int hk ?_ (Or.inl (PyProof.noPylong_small (by omega)))
  rw [ek, Int.fdiv_eq_ediv_of_nonneg _ (by omega)]; exact h
theorem mark_at2 (e : Nat) : Txt.item (Str.ofString "+-*/") ((e % 4 : Nat) : Int) = markS (qOf e) := by
  have k : ∀ i : Fin 4, Txt.item (Str.ofString "+-*/") ((i.val : Nat) : Int) = markS i.val := by decide +kernel
  exact k ⟨e % 4, Nat.mod_lt _ (by decide)⟩
theorem ws_at2 (e : Nat) : Txt.item (Str.ofString " \t\n\r") ((e / 360 % 4 : Nat) : Int) = strOf [bOf e] := by
  have k : ∀ i : Fin 4, Txt.item (Str.ofString " \t\n\r") ((i.val : Nat) : Int) = strOf [wsOf i.val] := by decide +kernel
  exact k ⟨e / 360 % 4, Nat.mod_lt _ (by decide)⟩
local macro_rules | `(tactic| walk_at "binaryOp Mod int int") => `(tactic| first | refine modV (by decide) ?_ | refine modNat 4 rfl (by decide) ?_ | refine modNat 30 rfl (by decide) ?_ | refine modNat 3 rfl (by decide) ?_)
local macro_rules | `(tactic| walk_at "binaryOp FloorDiv int int") => `(tactic| first | refine divNat 4 rfl (by decide) (by decide) ?_ | refine divNat 120 rfl (by decide) (by decide) ?_ | refine divNat 360 rfl (by decide) (by decide) ?_)
local macro_rules | `(tactic| walk_at "subscriptTail") => `(tactic| (k_here; (with_reducible show wpAny _ _ (subscriptTail _ _ (Value.str _ _) (Value.int _ _)) _ _ _); (refine KXi.item (n := 4) (by decide) ?yk1 ?yk2 ?yk3 ?_; (case yk1 => omega); (case yk2 => omega); (case yk3 => omega)); intro kxiE; first | rw [mark_at2] at kxiE ⊢ | rw [ws_at2] at kxiE ⊢))
local macro_rules | `(tactic| k_all) => `(tactic| first | exact OwnOff.ne (by assumption) (by k_memK) | (refine allLt_ne (d := ?d) ?h ?b; (case h => assumption); (case b => (show @LE.le Nat _ _ _); omega)))
theorem wordE_code (w : World) (dp un : Nat) (gd : Option (List Code)) (cn : Str) (cs : Scope) (a : Addr) (ccd : Value) (cl : List (Str × Addr)) (outer : List Env) (A₀ : Around) (base h₀ : Heap) (L : Addr) (m : Str → Option Value) (s : Shared) (p : Program) (loose : List Str) (mean : ExcName → Option Value) (mg mb : Str → Option Value)
    (Rr : Result → Shared → Prop)
    (B : Below A₀ base outer h₀) (F : Fr h₀ L s.heap m) (X : (wPart w.params).In h₀) (T : Top p loose mean mg mb h₀) (hk : cs.kind = .function)
    (hcd : CodeHd base 116 112) (hd : dp + 40 < 1000) (hu : un + 500 < 9900)
  (R : List (Addr × Obj)) {e : Nat} {tx : Tok} {tm : Tok} (N : News h₀ L s.heap R)
  (ret : ∀ h' tk' t, Fr h₀ L h' m → News h₀ L h' R → Rr (.ok (.ret (.str (strOf (wordL (mnOf e) (repL (qOf e) (rOf e)))) t))) { s with heap := h', toks := tk' }) :
    codeAny (model P1 w) (ktrTop dp un gd cn cs L a ccd cl outer) (.call (.ref 122) ⟨[.str (repE e) tx, .int ((e / 120 % 3 : Nat) : Int) tm], []⟩) Rr s :=
  word_code w dp un gd cn cs a ccd cl outer A₀ base h₀ L m s p loose mean mg mb Rr B F X T hk hcd hd hu R N (qOf_lt e) (rOf_lt e) (mnOf_lt e) ret
local macro_rules | `(tactic| walk_at "loadName") => `(tactic| (k_here; refine wpAny_loadName_local (by rfl) (by rfl) (Fr.ns (by k_asm)) (by rfl) ?_))
local macro_rules | `(tactic| walk_at "call ref") => `(tactic| (k_here; (try dsimp only [List.append_nil, List.cons_append, List.nil_append]); (with_reducible show wpAny _ _ (call (Value.ref 122) [Value.str _ _, Value.int _ _]) _ _ _); rw [rep_text]; k_dflt (refine' wpAny_call (wordE_code _ _ _ _ _ _ _ _ _ _ _ _ _ _ _ _ _ _ _ _ _ _ ?yB ?yF ?yX ?yT ?yhk ?yhcd ?yhd ?yhu _ ?yN ?_); (case yB => k_asm); (case yF => k_asm); (case yX => k_asm); (case yT => k_asm); (case yhk => first | rfl | assumption); (case yhcd => assumption); (case yN => k_asm); (case yhd => show _ + 40 < 1000; (try dsimp only [ktrTop]); omega); (case yhu => show _ + 500 < 9900; (try dsimp only [ktrTop]); omega); k_whole; intro h' tk' t' F' N'; (try k_sweep))))
noncomputable def Inv1 (es0 : List Nat) (sc ch rp I : Addr) (R : List (Addr × Obj)) (vs' : List Value) (m1 : Str → Option Value) (news : List (Addr × Obj)) : Prop :=
  ∃ (ns' : List Int) (es : List Nat) (vsC vsR : List Value) (kc kr : Nat) (tt : Tok) (TR : List (Addr × Obj)), news = (ch, W.listOf vsC.toArray kc) :: (rp, W.listOf vsR.toArray kr) :: (TR ++ R) ∧
    IntsAre vs' ns' ∧ es ++ ns'.map eOf = es0 ∧ m1 "script" = some (.ref sc) ∧ m1 "chain" = some (.ref ch) ∧ m1 "replies" = some (.ref rp) ∧ m1 "text" = some (.str (strOf (es.flatMap wordE)) tt) ∧
    ChainIn TR vsC (es.map chE) ∧ TxtsAre vsR (es.map repE) ∧ OwnOff (TR ++ R) [ch, rp] ∧ (∀ p ∈ TR, @LT.lt Nat _ I p.1)
theorem chainMono : ∀ {R R' : List (Addr × Obj)} {vs : List Value} {es : List (Str × Int)}, (∀ p ∈ R, p ∈ R') → ChainIn R vs es → ChainIn R' vs es
  | _, _, [], [], _, _ => trivial
  | _, _, .ref _ :: _, _ :: _, hs, h => ⟨⟨h.1.choose, h.1.choose_spec.choose, hs _ h.1.choose_spec.choose_spec⟩, h.2.1, chainMono hs h.2.2⟩
theorem chainSnoc : ∀ {R : List (Addr × Obj)} {vs : List Value} {es : List (Str × Int)} {a : Addr} {e : Str × Int}, ChainIn R vs es → (∃ t1 t2, (a, tupIP e.1 e.2 t1 t2) ∈ R) → (1 ≤ e.2 ∧ e.2 ≤ 30) → ChainIn R (vs ++ [.ref a]) (es ++ [e])
  | _, [], [], _, _, _, h1, h2 => ⟨h1, h2, trivial⟩
  | _, .ref _ :: _, _ :: _, _, _, h, h1, h2 => ⟨h.1, h.2.1, chainSnoc h.2.2 h1 h2⟩
theorem pushList (vs : List Value) (v : Value) : vs.toArray.push v = (vs ++ [v]).toArray := by simp
theorem end1 {prog : Program} {w : World} {A : Around} {E : Value → Shared → Prop} {env : Env} {target : PySem.Expr} {body : List Stmt} {Q : Flow → Shared → Prop} {s s₁ : Shared} {wst : List (Addr × String)} {h₀ h' : Heap} {m' : Str → Option Value} {es0 : List Nat} {sc ch rp dl I D : Addr} {ls oI : Obj} {R TR : List (Addr × Obj)} {r vsC vsR : List Value} {kc kr : Nat} {n : Int} {ns2 : List Int} {es : List Nat} {t1 t2 tx tt : Tok} {tk : Nat} {txt : Str}
  (kF : Fr h₀ env.locals h' m')
  (kN : News h₀ env.locals h' ((D, tupIP (markS (qOf (eOf n))) (1 + ((eOf n / 4 % 30 : Nat) : Int)) t1 t2) :: (I, oI) :: (ch, W.listOf (vsC.toArray.push (.ref D)) kc) :: (rp, W.listOf (vsR.toArray.push (.str txt tx)) kr) :: (TR ++ R)))
  (l1 : @LT.lt Nat _ I D ∧ @LT.lt Nat _ ch D ∧ @LT.lt Nat _ rp D ∧ AllLt D (TR ++ R)) (htxt : txt = repE (eOf n))
  (hIc : @LT.lt Nat _ ch I) (hIr : @LT.lt Nat _ rp I) (hi : IntsAre r ns2) (he : es ++ List.map eOf (n :: ns2) = es0)
  (h1 : m' "script" = some (.ref sc)) (h2 : m' "chain" = some (.ref ch)) (h3 : m' "replies" = some (.ref rp)) (h4 : m' "text" = some (.str (strOf (es.flatMap wordE) ++ (strOf (wordL (mnOf (eOf n)) (repL (qOf (eOf n)) (rOf (eOf n)))) ++ strOf [bOf (eOf n)])) tt))
  (hd' : (dl, ls) ∈ R) (hR : ∀ p ∈ R, @LT.lt Nat _ p.1 I) (hC : ChainIn TR vsC (es.map chE)) (hT : TxtsAre vsR (es.map repE)) (ho : OwnOff (TR ++ R) [ch, rp]) (hi2 : ∀ p ∈ TR, @LT.lt Nat _ I p.1)
  (IH : ∀ m' news', Inv1 es0 sc ch rp I R r m' news' → ItemsRest prog w A E h₀ env target body Q s wst [(dl, ls)] (r.map .val) m' news') :
    UnrEndW h₀ env.locals s₁ [(I, oI)] (fun m' n' => SubL [(dl, ls)] n' ∧ ItemsRest prog w A E h₀ env target body Q s wst [(dl, ls)] (r.map .val) m' n') { s₁ with heap := h', toks := tk } := by
  have hn : ∀ p ∈ (ch, W.listOf (vsC.toArray.push (.ref D)) kc) :: (rp, W.listOf (vsR.toArray.push (.str txt tx)) kr) :: (D, tupIP (markS (qOf (eOf n))) (1 + ((eOf n / 4 % 30 : Nat) : Int)) t1 t2) :: (TR ++ R), p.1 ≠ I := by
    intro p hp
    rcases List.mem_cons.mp hp with rfl | hp
    · exact Nat.ne_of_lt hIc
    rcases List.mem_cons.mp hp with rfl | hp
    · exact Nat.ne_of_lt hIr
    rcases List.mem_cons.mp hp with rfl | hp
    · exact Nat.ne_of_gt l1.1
    rcases List.mem_append.mp hp with hp | hp
    · exact Nat.ne_of_gt (hi2 p hp)
    · exact Nat.ne_of_lt (hR p hp)
  refine ⟨h', tk, m', (ch, W.listOf (vsC.toArray.push (.ref D)) kc) :: (rp, W.listOf (vsR.toArray.push (.str txt tx)) kr) :: (D, tupIP (markS (qOf (eOf n))) (1 + ((eOf n / 4 % 30 : Nat) : Int)) t1 t2) :: (TR ++ R), rfl, kF, fun p hp => kN p ?_, fun p hp q hq => ?_, ⟨?_, trivial⟩, IH _ _ ?_⟩
  · simp only [List.cons_append, List.nil_append, List.mem_cons] at hp ⊢
    rcases hp with h | h | h | h | h <;> simp only [h, true_or, or_true]
  · rw [List.mem_singleton.mp hq]; exact hn p hp
  · exact .tail _ (.tail _ (.tail _ (List.mem_append_right _ hd')))
  · refine ⟨ns2, es ++ [eOf n], vsC ++ [.ref D], vsR ++ [.str txt tx], kc, kr, tt, (D, tupIP (markS (qOf (eOf n))) (1 + ((eOf n / 4 % 30 : Nat) : Int)) t1 t2) :: TR, by rw [pushList, pushList]; rfl, hi, ?_, h1, h2, h3, ?_, ?_, ?_, ?_, fun p hp => ?_⟩
    · rw [← he, List.append_assoc]; rfl
    · rw [h4, strOf_app, strOf_app, List.flatMap_append, List.flatMap_singleton]
      rfl
    · rw [List.map_append]
      refine chainSnoc (chainMono (fun p hp => .tail _ hp) hC) ⟨t1, t2, ?_⟩ ?_
      · have e : (1 + ((eOf n / 4 % 30 : Nat) : Int)) = (chE (eOf n)).2 := Int.add_comm _ _
        rw [e]; exact .head _
      · have := rOf_lt (eOf n)
        exact ⟨by show 1 ≤ (rOf (eOf n) : Int) + 1; omega, by show (rOf (eOf n) : Int) + 1 ≤ 30; omega⟩
    · rw [List.map_append, htxt]
      exact hT.snoc
    · intro p hp b hb
      rcases List.mem_cons.mp (show p ∈ (D, tupIP (markS (qOf (eOf n))) (1 + ((eOf n / 4 % 30 : Nat) : Int)) t1 t2) :: (TR ++ R) from hp) with rfl | hp
      · rcases List.mem_cons.mp hb with rfl | hb
        · exact Nat.ne_of_gt l1.2.1
        · rw [List.mem_singleton.mp hb]; exact Nat.ne_of_gt l1.2.2.1
      · exact ho p hp b hb
    · rcases List.mem_cons.mp hp with rfl | hp
      · exact l1.1
      · exact hi2 p hp
noncomputable def Stop6 (P : Prop) : Prop := P
theorem Stop6.go {P : Prop} (h : Stop6 P) : P := h
local macro_rules | `(tactic| walk_at "execs nil") => `(tactic| refine Stop6.go ?_)
local macro_rules | `(tactic| walk_at "UnrEndW") => `(tactic| refine Stop6.go ?_)
theorem chainLen : ∀ {R : List (Addr × Obj)} {vs : List Value} {es : List (Str × Int)}, ChainIn R vs es → vs.length = es.length
  | _, [], [], _ => rfl
  | _, .ref _ :: _, _ :: _, h => congrArg (· + 1) (chainLen h.2.2)
theorem txtsLen : ∀ {vs : List Value} {es : List Str}, TxtsAre vs es → vs.length = es.length
  | [], [], _ => rfl
  | .str _ _ :: _, _ :: _, h => congrArg (· + 1) (txtsLen h.2)
theorem loop1_code (w : World) (dp un : Nat) (gd : Option (List Code)) (a : Addr) (ccd : Value) (cl : List (Str × Addr)) (outer : List Env) (A₀ : Around) (base h₀ : Heap) (L : Addr) (m : Str → Option Value) (s : Shared) (p : Program) (loose : List Str) (mean : ExcName → Option Value) (mg mb : Str → Option Value)
    (Rr : Result → Shared → Prop)
    (B : Below A₀ base outer h₀) (F : Fr h₀ L s.heap m) (X : (wPart w.params).In h₀) (T : Top p loose mean mg mb h₀)
    (hcd : CodeHd base 116 112) (hd : dp + 80 < 1000) (hu : un + 900 < 9900)
  {px : PySem.Expr} {E : Value → Shared → Prop} {Q : Flow → Shared → Prop} (R : List (Addr × Obj)) {sc ch rp dl : Addr} {ws : List Value} {ns : List Int} {kc kr kd : Nat} {tt : Tok}
  (N : News h₀ L s.heap ((ch, W.listOf #[] kc) :: (rp, W.listOf #[] kr) :: R)) (idl : (dl, W.listOf ws.toArray kd) ∈ R) (hoff : OwnOff R [ch, rp]) (hne : @Ne Nat ch rp) (hns : IntsAre ws ns) (hlen : ns.length ≤ 6)
  (hm1 : m "script" = some (.ref sc)) (hm2 : m "chain" = some (.ref ch)) (hm3 : m "replies" = some (.ref rp)) (hm4 : m "text" = some (.str (strOf []) tt))
  (ret : ∀ h' tk' m' vsC vsR kc kr t TR I, Fr h₀ L h' m' → News h₀ L h' ((ch, W.listOf vsC.toArray kc) :: (rp, W.listOf vsR.toArray kr) :: (TR ++ R)) → m' "script" = some (.ref sc) → m' "chain" = some (.ref ch) → m' "replies" = some (.ref rp) → m' "text" = some (.str (strOf ((ns.map eOf).flatMap wordE)) t) →
    ChainIn TR vsC ((ns.map eOf).map chE) → TxtsAre vsR ((ns.map eOf).map repE) → OwnOff (TR ++ R) [ch, rp] → (∀ p ∈ TR, @LT.lt Nat _ I p.1) → @LT.lt Nat _ ch I → @LT.lt Nat _ rp I → (∀ p ∈ R, @LT.lt Nat _ p.1 I) → Q .next { s with heap := h', toks := tk' }) :
    wpAny (model P1 w) (ktrTop dp un gd "law" lawS L a ccd cl outer) (pyIter (.ref dl)) (fun it s₂ => TurnsAt P1 w (ktrTop dp un gd "law" lawS L a ccd cl outer) h₀ (envX "law" lawS L a ccd cl) lawT1 lawB1 Q E it s₂) E s := by
  refine iter_listTurns (n := kd) (lo := W.listOf ws.toArray kd) rfl F N (.tail _ (.tail _ idl)) rfl rfl ?_
  intro I hI
  refine itemsRest_of2 (Inv1 (ns.map eOf) sc ch rp I R) ?z ?s ws m _ ⟨ns, [], [], [], kc, kr, tt, [], rfl, hns, rfl, hm1, hm2, hm3, hm4, trivial, trivial, hoff, fun p hp => nomatch hp⟩
  case z =>
    rintro m1 news ⟨ns', es, vsC, vsR, kc', kr', t', TR, rfl, hi, he, h1, h2, h3, h4, hC, hT, ho, hi2⟩ h tk F9 N9
    cases hi
    rw [List.map_nil, List.append_nil] at he
    subst he
    exact ret _ _ _ _ _ _ _ _ _ I F9 N9 h1 h2 h3 h4 hC hT ho hi2 (hI _ (.head _)) (hI _ (.tail _ (.head _))) fun p hp => hI p (.tail _ (.tail _ hp))
  case s =>
    rintro v r m1 news ⟨ns', es, vsC, vsR, kc', kr', t', TR, rfl, hi, he, h1, h2, h3, h4, hC, hT, ho, hi2⟩ IH
    cases hi
    rename_i n tn ns2 hi
    refine ItemsRest.val (fun h tk F9 => AllObj.cons (fun oI hoI => AllObj.nil (fun N9 => ?_)))
    simp only [List.cons_append, List.nil_append] at N9
    rw [setBack4 h1 h2 h3 h4] at F9
    dsimp only [lawS, lawS0, lawT1, lawT10, lawB1, lawB10]
    have hIc : @LT.lt Nat _ ch I := hI _ (.head _)
    have hIr : @LT.lt Nat _ rp I := hI _ (.tail _ (.head _))
    have hel : es.length ≤ 6 := by
      have z := congrArg List.length he
      simp only [List.length_append, List.length_map, List.length_cons] at z
      omega
    have hvC : vsC.length ≤ 100 := by have z := chainLen hC; rw [List.length_map] at z; omega
    have hvR : vsR.length ≤ 100 := by have z := txtsLen hT; rw [List.length_map] at z; omega
    have hwl : (strOf (wordL (mnOf (eOf n)) (repL (qOf (eOf n)) (rOf (eOf n))))).length ≤ 50 := by rw [strOf_len]; exact wordE_len _
    have htl : (strOf (es.flatMap wordE)).length ≤ 400 := by rw [strOf_len]; have z := wordsE_len es; omega
    have hbl : (strOf [bOf (eOf n)]).length = 1 := rfl
    have hmk : (markS (qOf (eOf n))).length = 1 := rfl
    k_steps
    unfold Stop6
    refine wpAny_execs_nil ?_
    dsimp only [UnrPostW]
    rename Fr h₀ _ _ _ => kF; rename News h₀ _ _ _ => kN; rename @LT.lt Nat _ I _ ∧ _ => l1
    exact end1 (dl := dl) (R := R) kF kN l1 (rep_text _) hIc hIr hi he rfl rfl rfl rfl idl (fun p hp => hI p (.tail _ (.tail _ hp))) hC hT ho hi2 IH
end Mine

namespace Mine
set_option maxHeartbeats 8000000
theorem lexMk2 {w : World} {sd fr cr cA cT lx dx st at_ c : Addr} {ocr oA oT oc : Obj} {fdS : FuncData} {vs : Array Value} {qual : Str} {tq : Tok} {doc pm ctv : Value} {text : Str} {tk1 tt : Tok} 
    (h2d : ocr.data = .fields vs) (h2v : vs[1]? = some (.str qual tq)) (h3d : oA.data = .cell (some (.ref at_))) (h4d : oT.data = .cell (some (.str text tt))) :
    LexIn w ([(lx, instObj 103 dx), (sd, dictOf [⟨PyData.keyHash w.params "read", .str "read" tk1, .ref fr⟩] 1), (st, fnObj fdS (some sd)), (c, oc), (fr, fnMade "read" qual readA readB readS [("text", cT), ("at", cA)] doc pm cr ctv), (cr, ocr), (cA, oA), (cT, oT)]) lx dx st at_ text := by
  refine ⟨sd, fr, cr, cA, cT, ocr, oA, oT, fdS, vs, qual, tq, doc, pm, ctv, tk1, tt, ?_, ?_, ?_, ?_, ?_, h2d, h2v, ?_, h3d, ?_, h4d⟩ <;> simp only [List.mem_cons, true_or, or_true]
theorem newsLex2 {h₀ h : Heap} {L : Addr} {p1 p2 p3 p4 p5 p6 p7 p8 p9 p10 p11 p12 : Addr × Obj} {R : List (Addr × Obj)} (N : News h₀ L h (p1 :: p2 :: p3 :: p4 :: p5 :: p6 :: p7 :: p8 :: p9 :: p10 :: p11 :: p12 :: R)) :
    News h₀ L h (p9 :: p3 :: p1 :: ([p2, p4, p5, p6, p7, p8, p10, p11] ++ (p12 :: R))) := fun p hp => N p (by
  simp only [List.mem_cons, List.mem_append, List.not_mem_nil, or_false] at hp ⊢
  rcases hp with h | h | h | (h | h | h | h | h | h | h | h) | h | h <;> simp only [h, true_or, or_true])
local macro_rules | `(tactic| k_all) => `(tactic| first | exact OwnOff.ne (by assumption) (by k_memK) | (refine allLt_ne (d := ?d) ?h ?b; (case h => assumption); (case b => (show @LE.le Nat _ _ _); omega)))
local macro_rules | `(tactic| walk_at "setAttr ref") => `(tactic| (k_here; k_dflt (refine' setAttr_fn ?k1 ?k2 ?k3 ?_; (case k1 => k_asm); (case k2 => k_asm); (case k3 => k_all); k_whole); intro d' h' tk' k' F' N' l1 l2; (try k_lt l1); (try k_lt2 l2); (try k_sweep)))
theorem lexer_code2 (w : World) (dp un : Nat) (gd : Option (List Code)) (cn : Str) (cs : Scope) (a : Addr) (ccd : Value) (cl : List (Str × Addr)) (outer : List Env) (A₀ : Around) (base h₀ : Heap) (L : Addr) (m : Str → Option Value) (s : Shared) (p : Program) (loose : List Str) (mean : ExcName → Option Value) (mg mb : Str → Option Value)
    (Rr : Result → Shared → Prop)
    (B : Below A₀ base outer h₀) (F : Fr h₀ L s.heap m) (X : (wPart w.params).In h₀) (T : Top p loose mean mg mb h₀) (hk : cs.kind = .function)
    (hcd : CodeHd base 116 112) (hd : dp + 40 < 1000) (hu : un + 500 < 9900)
  (R : List (Addr × Obj)) {text : Str} {t : Tok} (N : News h₀ L s.heap ((112, tabObj #[]) :: R)) (hoff : OwnOff R [112])
  (ret : ∀ ps h' tk' X0 D0 lx dx st pb at_ u k n tn t1 t2 t3 t4 t5 kp, AllLt D0 R → (∀ p ∈ X0, @LE.le Nat _ D0 p.1) → (@LE.le Nat _ D0 at_ ∧ @LE.le Nat _ D0 dx ∧ @LE.le Nat _ D0 pb) → LexIn w X0 lx dx st at_ text → OwnOff X0 [at_, dx, pb] → @Ne Nat at_ dx → @Ne Nat at_ pb → @Ne Nat dx pb → n = 1 →
    Fr h₀ L h' m → News h₀ L h' ((at_, W.listOf #[.int 0 u] k) :: (dx, lexD w n tn st pb t1 t2 t3 t4 t5) :: (pb, W.listOf #[] kp) :: (X0 ++ ((112, tabObj ps) :: R))) → Rr (.ok (.ret (.ref lx))) { s with heap := h', toks := tk' }) :
    codeAny (model P1 w) (ktrTop dp un gd cn cs L a ccd cl outer) (.call (.ref 117) ⟨[.str text t], []⟩) Rr s := by
  k_dflt (refine' code_defC ?k1 ?k2 ?k3 ?k4 ?k5 ?kA ?kF ?kK ?k6 ?k7 ?k8 ?k9 ?kB ?kD ?_ ?c2 ?c3 ?c4; (case kA => exact rfl); (case kF => exact rfl); (case kK => assumption); (case k1 => k_asm); (case k2 => k_asm); (case k3 => k_asm); (case k4 => k_asm); (case k5 => k_asm); (case k6 => k_is); (case k7 => k_is); (case k8 => k_room); (case k9 => exact BindsTo.of_eq rfl); (case kB => exact rfl); (case kD => decide +kernel); (case c2 => exact rfl); (case c3 => exact rfl); (case c4 => exact rfl); k_whole; intro g' L' h' tk' cells' FG' F' N' Y' B' X' T' l1; (try k_lt l1); k_cells Y'; (try simp only [List.cons_append, List.nil_append] at N'); (try dsimp only); (try k_lift B'); (try k_fold))
  obtain ⟨l1, l2⟩ := l1
  k_steps
  rename Fr h₀ _ _ _ => kF
  rename News h₀ _ _ _ => kN
  rename Fr h₀ _ _ _ => kF
  rename News h₀ _ _ _ => kN
  refine ret _ _ _ _ L' _ _ _ _ _ _ _ _ _ _ _ _ _ _ _ l2 ?_ ?_ ?_ ?_ ?_ ?_ ?_ ?_ kF (newsLex2 kN)
  · intro p hp
    simp only [List.mem_cons, List.not_mem_nil, or_false] at hp
    rcases hp with h | h | h | h | h | h | h | h <;> (rw [h]; (show @LE.le Nat _ _ _); omega)
  · refine ⟨?_, ?_, ?_⟩ <;> ((show @LE.le Nat _ _ _); omega)
  · have z := @lexMk2 w
    dsimp only [readA, readB, readS, readA0, readB0, readS0] at z
    refine' z ?k1 ?k2 ?k3 ?k4; (case k3 => assumption); (case k4 => assumption); (case k1 => assumption); (case k2 => assumption)
  · refine off3b ?_ ?_ ?_ <;> first | k_all | skip
  · (show @Ne Nat _ _); omega
  · (show @Ne Nat _ _); omega
  · (show @Ne Nat _ _); omega
  · rfl
end Mine

namespace Mine
set_option maxHeartbeats 2000000
local macro_rules | `(tactic| walk_at "zzpad0") => `(tactic| skip)
noncomputable def Stop7 (P : Prop) : Prop := P
theorem Stop7.go {P : Prop} (h : Stop7 P) : P := h
local macro_rules | `(tactic| walk_at "call ref") => `(tactic| (k_here; (with_reducible show wpAny _ _ (call (Value.ref 93) _) _ _ _); refine Stop7.go ?_))
theorem newsOut {h₀ h : Heap} {L : Addr} {i c d x y : Addr × Obj} {R : List (Addr × Obj)} (N : News h₀ L h (i :: c :: d :: x :: y :: R)) : News h₀ L h (x :: y :: i :: c :: d :: R) := fun p hp => N p (by
  simp only [List.mem_cons] at hp ⊢
  rcases hp with h | h | h | h | h | h <;> simp only [h, true_or, or_true])
theorem newsIn {h₀ h : Heap} {L : Addr} {i c d x y : Addr × Obj} {R : List (Addr × Obj)} (N : News h₀ L h (x :: y :: i :: c :: d :: R)) : News h₀ L h (i :: c :: d :: x :: y :: R) := fun p hp => N p (by
  simp only [List.mem_cons] at hp ⊢
  rcases hp with h | h | h | h | h | h <;> simp only [h, true_or, or_true])
theorem offOut {I C D : Addr} {oI oC oD : Obj} {x y : Addr × Obj} {R : List (Addr × Obj)} (h : LCg.Off3 I C D (x :: y :: R)) (ho : OwnOff R [x.1, y.1]) : (∀ p ∈ (I, oI) :: (C, oC) :: (D, oD) :: R, p.1 ≠ x.1) ∧ ∀ p ∈ (I, oI) :: (C, oC) :: (D, oD) :: R, p.1 ≠ y.1 := by
  obtain ⟨⟨a1, a2, a3⟩, ⟨b1, b2, b3⟩, _⟩ := h
  refine ⟨fun p hp => ?_, fun p hp => ?_⟩ <;>
  · rcases List.mem_cons.mp hp with rfl | hp
    · exact Ne.symm (by assumption)
    rcases List.mem_cons.mp hp with rfl | hp
    · exact Ne.symm (by assumption)
    rcases List.mem_cons.mp hp with rfl | hp
    · exact Ne.symm (by assumption)
    · first | exact ho p hp _ (.head _) | exact ho p hp _ (.tail _ (.head _))
theorem offIn {I C D : Addr} {x y x' y' : Addr × Obj} {R : List (Addr × Obj)} (h : LCg.Off3 I C D ((x.1, x.2) :: (y.1, y.2) :: R)) (e1 : x'.1 = x.1 := by rfl) (e2 : y'.1 = y.1 := by rfl) : LCg.Off3 I C D (x' :: y' :: R) := by
  obtain ⟨a, b, c⟩ := h
  exact ⟨by rw [e1]; exact a, by rw [e2]; exact b, c⟩
theorem words_code (w : World) (dp un : Nat) (gd : Option (List Code)) (a : Addr) (ccd : Value) (c1 c2 : Addr) (outer : List Env) (A₀ : Around) (base h₀ : Heap) (L : Addr) (m : Str → Option Value) (s : Shared) (p : Program) (loose : List Str) (mean : ExcName → Option Value) (mg mb : Str → Option Value)
    (Rr : Result → Shared → Prop)
    (B : Below A₀ base outer h₀) (F : Fr h₀ L s.heap m) (X : (wPart w.params).In h₀) (T : Top p loose mean mg mb h₀)
    (hcd : CodeHd base 116 112) (hd : dp + 80 < 1000) (hu : un + 900 < 9900)
  {E : Value → Shared → Prop} {Q : Flow → Shared → Prop} (R : List (Addr × Obj)) {lx dx st at_ pb rp : Addr} {o1 : Obj} {text : Str} {Tx : List Nat} {kk kp kr : Nat} {n : Int} {tp tn t1 t2 t3 t4 t5 : Tok} {vsR : List Value} {es : List Nat}
  (N : News h₀ L s.heap ((at_, W.listOf #[.int 0 tp] kk) :: (dx, lexD w n tn st pb t1 t2 t3 t4 t5) :: R)) (LI : LexIn w R lx dx st at_ text) (hpb : (pb, W.listOf #[] kp) ∈ R)
  (ho : OwnOff R [at_, dx]) (hne : @Ne Nat at_ dx) (hlen : text.length ≤ 1000) (hx : text.cps.toList = Tx) (hn : n = 1) (hc1 : (c1, o1) ∈ R) (hc1d : o1.data = .cell (some (.ref lx))) (hrp : (rp, W.listOf vsR.toArray kr) ∈ R) (hm : m "replies" = some (.ref rp)) (hT : TxtsAre vsR (es.map repE)) (hes : es.length ≤ 6) (hrd : ReadsE Tx es)
  (ret : ∀ h' tk' D ws pos tp kk n tn rem, Fr h₀ L h' (fun z => if z = Str.ofString "words" then some (.ref D) else m z) → News h₀ L h' ((D, LCg.lst ws) :: (at_, W.listOf #[.int (pos : Nat) tp] kk) :: (dx, lexD w n tn st pb t1 t2 t3 t4 t5) :: R) → TxtsAre ws (es.map repE) → Tx.drop pos = rem → Tok3 rem [] [] → (0 ≤ n ∧ n ≤ (pos : Int) + 1) → pos ≤ Tx.length + 10 → LCg.Off1 D ((at_, W.listOf #[.int (pos : Nat) tp] kk) :: (dx, lexD w n tn st pb t1 t2 t3 t4 t5) :: R) → Q .next { s with heap := h', toks := tk' }) :
    wpAny (model P1 w) (ktrTop dp un gd "law" lawS L a ccd [(Str.ofString "numbers", c2), (Str.ofString "lexer", c1)] outer) (exec lawSt5 (envX "law" lawS L a ccd [(Str.ofString "numbers", c2), (Str.ofString "lexer", c1)])) Q E s := by
  dsimp only [lawSt5, lawSt50]
  refine LCg.Assign_ListComp_U F rfl rfl rfl (by decide +kernel) rfl (by decide +kernel) rfl rfl rfl ?_
  refine nameX_L F hm ?_
  have hvl : vsR.length = es.length := by have z := txtsLen hT; rw [List.length_map] at z; exact z
  refine LCg.CompSrc.ledger (k := kr) rfl F N (.tail _ (.tail _ hrp)) ?_ fun g => ?_
  · rw [List.size_toArray, hvl]; exact Nat.le_trans hes (Nat.le_of_ble_eq_true rfl)
  have hTl : Tx.length ≤ 1000 := by rw [← hx]; simpa [Str.length] using hlen
  refine compInv vsR.toArray.size (fun i ys news => ∃ (pos : Nat) (tp : Tok) (kk : Nat) (n : Int) (tn : Tok) (rem : List Nat), news = (at_, W.listOf #[.int (pos : Nat) tp] kk) :: (dx, lexD w n tn st pb t1 t2 t3 t4 t5) :: R ∧ TxtsAre ys ((es.take i).map repE) ∧ Tx.drop pos = rem ∧ ReadsE rem (es.drop i) ∧ 0 ≤ n ∧ n ≤ (pos : Int) + 1 ∧ pos ≤ Tx.length + i) ?fin ?step _ 0 [] _ (by omega) ⟨0, tp, kk, n, tn, Tx, rfl, trivial, rfl, hrd, by omega, by omega, by omega⟩
  case fin =>
    rintro ys news ⟨pos, tp, kk, n, tn, rem, rfl, hT2, hdr, hR, hn0, hn1, hpos⟩ D h tk F9 N9 hoff
    rw [List.size_toArray, hvl] at hT2 hR hpos
    rw [List.take_of_length_le (Nat.le_refl _)] at hT2
    rw [List.drop_of_length_le (Nat.le_refl _)] at hR
    cases hR with
    | nil hTk => exact ret _ _ _ _ _ _ _ _ _ _ F9 N9 hT2 hdr hTk ⟨hn0, hn1⟩ (by omega) hoff
  case step =>
    rintro i ys news v I oI C oC D m₂ h tk E' hi ⟨pos, tp, kk, n, tn, rem, rfl, hT2, hdr, hR, hn0, hn1, hpos⟩ hP hns hm2 F9 N9 hoff hne3
    have hil : i < es.length := by rw [List.size_toArray, hvl] at hi; exact hi
    rw [List.drop_eq_getElem_cons hil] at hR
    have i1 : (lx, instObj 103 dx) ∈ R := by obtain ⟨_, _, _, _, _, _, _, _, _, _, _, _, _, _, _, _, _, i1, _⟩ := LI; exact i1
    dsimp only [lawS, lawS0]
    k_steps
    unfold Stop7
    dsimp only [List.append_nil]
    cases hR with
    | cons hTk hR2 =>
    rename_i b
    refine wpAny_call (gettok_code w dp un gd _ _ a ccd _ outer A₀ base h₀ L m _ p loose mean mg mb _ B F9 X T rfl hcd (by omega) (by omega) ((I, oI) :: (C, oC) :: (D, LCg.lst ys) :: R) (newsOut N9) (LI.mono fun p hp => .tail _ (.tail _ (.tail _ hp))) (.tail _ (.tail _ (.tail _ hpb)))
      (offOut hoff ho).1 (offOut hoff ho).2 hne (by omega) hx ⟨by omega, by omega⟩ (by omega) hTk hdr ?_)
    intro h' tk' u k' u2 n' tn' pos' q1 q2 q3 q4 F' N'
    refine ⟨_, _, _, rfl, F', newsIn N', offIn hoff, .inr ⟨_, .tail _ (.tail _ hrp), rfl, _, rfl⟩, pos', u, k', n', tn', b, rfl, ?_, q1, hR2, q3, q4, by omega⟩
    rw [List.take_succ, List.getElem?_eq_getElem hil, Option.toList_some, List.map_append, strOf_repE]
    exact hT2.snoc
end Mine

namespace Mine
set_option maxHeartbeats 2000000
noncomputable def Stop8 (P : Prop) : Prop := P
theorem Stop8.go {P : Prop} (h : Stop8 P) : P := h
local macro_rules | `(tactic| walk_at "Exists") => `(tactic| refine Stop8.go ?_)
theorem offNew {I C D o : Addr} {x : Obj} {R : List (Addr × Obj)} (h : LCg.Off3 I C D R) (l : @LT.lt Nat _ I o ∧ @LT.lt Nat _ C o ∧ @LT.lt Nat _ D o) : LCg.Off3 I C D ((o, x) :: R) := ⟨⟨Nat.ne_of_gt l.1, Nat.ne_of_gt l.2.1, Nat.ne_of_gt l.2.2⟩, h⟩
theorem newsTold {h₀ h : Heap} {L : Addr} {o d i c e : Addr × Obj} {R : List (Addr × Obj)} (N : News h₀ L h (o :: d :: i :: c :: e :: R)) : News h₀ L h (i :: c :: e :: o :: R) := fun p hp => N p (by
  simp only [List.mem_cons] at hp ⊢
  rcases hp with h | h | h | h | h <;> simp only [h, true_or, or_true])
local macro_rules | `(tactic| walk_at "subscriptTail Name Constant str int") => `(tactic| (k_here; (with_reducible show wpAny _ _ (subscriptTail _ _ (Value.str _ _) (Value.int _ _)) _ _ _); (refine KXi.item rfl ?k1 ?k2 ?k3 ?_; (case k1 => omega); (case k2 => omega); (case k3 => omega)); intro kxiE; (with_reducible rename Txt.item _ 5 = _ => zzE); rw [zzE]))
local macro_rules | `(tactic| walk_at "call ref") => `(tactic| (k_here; (try dsimp only [List.append_nil, List.cons_append, List.nil_append]); (with_reducible show wpAny _ _ (call (Value.ref 58) [Value.str _ _, Value.ref _]) _ _ _); (with_reducible rename Good _ _ _ _ _ => ggG); k_dflt (refine' wpAny_call (p229_code _ _ _ _ _ _ _ _ _ _ _ _ _ _ _ _ _ _ _ _ _ _ ?B ?F ?X ?T ?hk ?hcd ?hd ?hu _ ?N ?ip ggG.len.1 ggG.len.2.1 ggG.e1 ggG.e2 ggG.e3 ggG.len.2.2.1 ggG.len.2.2.2 ggG.e4 ggG.e5 ggG.e6 ggG.e7 ggG.e8 ggG.e9 ?_); (case B => k_asm); (case F => k_asm); (case X => k_asm); (case T => k_asm); (case hk => first | rfl | assumption); (case hcd => assumption); (case N => k_asm); (case ip => exact .head _); (case hd => show _ + 40 < 1000; (try dsimp only [ktrTop]); omega); (case hu => show _ + 500 < 9900; (try dsimp only [ktrTop]); omega); k_whole; intro h' tk' o' u1 u2 l1 F' N'; (try k_lt l1); (try dsimp only at N'); (try k_sweep))))
theorem told_code (w : World) (dp un : Nat) (gd : Option (List Code)) (a : Addr) (ccd : Value) (c1 c2 : Addr) (outer : List Env) (A₀ : Around) (base h₀ : Heap) (L : Addr) (m : Str → Option Value) (s : Shared) (p : Program) (loose : List Str) (mean : ExcName → Option Value) (mg mb : Str → Option Value)
    (Rr : Result → Shared → Prop)
    (B : Below A₀ base outer h₀) (F : Fr h₀ L s.heap m) (X : (wPart w.params).In h₀) (T : Top p loose mean mg mb h₀)
    (hcd : CodeHd base 116 112) (hd : dp + 80 < 1000) (hu : un + 900 < 9900)
  {E : Value → Shared → Prop} {Q : Flow → Shared → Prop} (R : List (Addr × Obj)) {wd : Addr} {ws : List Value} {es : List Nat}
  (N : News h₀ L s.heap R) (hwd : (wd, LCg.lst ws) ∈ R) (hm : m "words" = some (.ref wd)) (hT : TxtsAre ws (es.map repE)) (hes : es.length ≤ 6)
  (ret : ∀ h' tk' D ts TP, Fr h₀ L h' (fun z => if z = Str.ofString "told" then some (.ref D) else m z) → News h₀ L h' ((D, LCg.lst ts) :: (TP ++ R)) → PairsIn TP ts (es.map toldE) → Q .next { s with heap := h', toks := tk' }) :
    wpAny (model P1 w) (ktrTop dp un gd "law" lawS L a ccd [(Str.ofString "numbers", c2), (Str.ofString "lexer", c1)] outer) (exec lawSt8 (envX "law" lawS L a ccd [(Str.ofString "numbers", c2), (Str.ofString "lexer", c1)])) Q E s := by
  dsimp only [lawSt8, lawSt80]
  refine LCg.Assign_ListComp_U F rfl rfl rfl (by decide +kernel) rfl (by decide +kernel) rfl rfl rfl ?_
  refine nameX_L F hm ?_
  have hvl : ws.length = es.length := by have z := txtsLen hT; rw [List.length_map] at z; exact z
  refine LCg.CompSrc.ledger (k := ws.length) rfl F N hwd ?_ fun g => ?_
  · rw [List.size_toArray, hvl]; exact Nat.le_trans hes (Nat.le_of_ble_eq_true rfl)
  refine compInv ws.toArray.size (fun i ys news => ∃ TP, news = TP ++ R ∧ PairsIn TP ys ((es.take i).map toldE)) ?fin ?step _ 0 [] _ (by omega) ⟨[], rfl, trivial⟩
  case fin =>
    rintro ys news ⟨TP, rfl, hP⟩ D h tk F9 N9 hoff
    rw [List.size_toArray, hvl, List.take_of_length_le (Nat.le_refl _)] at hP
    exact ret _ _ _ _ _ F9 N9 hP
  case step =>
    rintro i ys news v I oI C oC D m₂ h tk E' hi ⟨TP, rfl, hP⟩ hP2 hns hm2 F9 N9 hoff hne3
    have hil : i < es.length := by rw [List.size_toArray, hvl] at hi; exact hi
    obtain ⟨y, tv, hy, rfl⟩ := txtsGet _ _ _ hT (by simpa using hP2)
    have hy2 : y = repE es[i] := by
      rw [List.getElem?_map, List.getElem?_eq_getElem hil] at hy
      exact (Option.some.inj hy).symm
    subst hy2
    obtain ⟨parts, rt, G⟩ := goodE es[i]
    have hl1 := G.len.1
    have hl2 := G.len.2.1
    have htk : (es.take (i + 1)).map toldE = (es.take i).map toldE ++ [toldE es[i]] := by
      rw [List.take_succ, List.getElem?_eq_getElem hil, Option.toList_some, List.map_append]; rfl
    generalize hex : es[i] = e at *
    dsimp only [lawS, lawS0]
    rcases sign_cases e with ⟨hq, hi5⟩ | ⟨hq, hi5⟩ | ⟨hq, hi5⟩ | ⟨hq, hi5⟩
    · have hE : toldE e = (14, (rOf e : Int) + 1) := by unfold toldE; rw [hq]; rfl
      k_steps
      unfold Stop8
      rename Fr h₀ _ _ _ => kF; rename News h₀ _ _ _ => kN; rename AllLt _ _ => l9
      refine ⟨_, _, _, rfl, kF, newsTold kN, offNew hoff ⟨l9.2.1, l9.2.2.1, l9.2.2.2.1⟩, .inr ⟨_, .tail _ (List.mem_append_right _ hwd), rfl, _, rfl⟩, _ :: TP, rfl, ?_⟩
      rw [htk, hE]
      exact (hP.mono fun p hp => .tail _ hp).snoc ⟨_, _, .head _⟩
    · have hE : toldE e = (15, (rOf e : Int) + 1) := by unfold toldE; rw [hq]; rfl
      k_steps
      unfold Stop8
      rename Fr h₀ _ _ _ => kF; rename News h₀ _ _ _ => kN; rename AllLt _ _ => l9
      refine ⟨_, _, _, rfl, kF, newsTold kN, offNew hoff ⟨l9.2.1, l9.2.2.1, l9.2.2.2.1⟩, .inr ⟨_, .tail _ (List.mem_append_right _ hwd), rfl, _, rfl⟩, _ :: TP, rfl, ?_⟩
      rw [htk, hE]
      exact (hP.mono fun p hp => .tail _ hp).snoc ⟨_, _, .head _⟩
    · have hE : toldE e = (16, (rOf e : Int) + 1) := by unfold toldE; rw [hq]; rfl
      k_steps
      unfold Stop8
      rename Fr h₀ _ _ _ => kF; rename News h₀ _ _ _ => kN; rename AllLt _ _ => l9
      refine ⟨_, _, _, rfl, kF, newsTold kN, offNew hoff ⟨l9.2.1, l9.2.2.1, l9.2.2.2.1⟩, .inr ⟨_, .tail _ (List.mem_append_right _ hwd), rfl, _, rfl⟩, _ :: TP, rfl, ?_⟩
      rw [htk, hE]
      exact (hP.mono fun p hp => .tail _ hp).snoc ⟨_, _, .head _⟩
    · have hE : toldE e = (17, (rOf e : Int) + 1) := by unfold toldE; rw [hq]; rfl
      k_steps
      unfold Stop8
      rename Fr h₀ _ _ _ => kF; rename News h₀ _ _ _ => kN; rename AllLt _ _ => l9
      refine ⟨_, _, _, rfl, kF, newsTold kN, offNew hoff ⟨l9.2.1, l9.2.2.1, l9.2.2.2.1⟩, .inr ⟨_, .tail _ (List.mem_append_right _ hwd), rfl, _, rfl⟩, _ :: TP, rfl, ?_⟩
      rw [htk, hE]
      exact (hP.mono fun p hp => .tail _ hp).snoc ⟨_, _, .head _⟩
end Mine

namespace Mine
theorem backAll {w : World} {y : Int} {tg : Tok} (h1 : -(10 ^ 24) < y) (h2 : y < 10 ^ 24) : ∀ (es : List Nat) (vs : List Value), TxtsAre vs (es.map repE) → es.length ≤ 10 → BackOK w (vs ++ [.str (goalW y) tg]) (backV es y) es.length
  | [], [], _, _ => by
    obtain ⟨a, b, c⟩ := goalW_facts h1 h2
    refine ok15 (goalW_len h1 h2) a b c (goalW_drop y) (numS_q y) ?_
    show PySem.intText? ⟨(numS y).cps.toList.toArray⟩ = _
    rw [Array.toArray_toList]
    exact numS_read h1 h2
  | e :: es, .str x tx :: vs, h, hl => by
    obtain ⟨hx, hr⟩ := h
    have ih := backAll (w := w) (tg := tg) h1 h2 es vs hr (by simp only [List.length_cons] at hl; omega)
    have hvl : (vs ++ [Value.str (goalW y) tg]).length ≤ 20 := by
      have z : vs.length = (es.map repE).length := by
        clear ih hl hx
        generalize es.map repE = ys at hr
        induction vs generalizing ys with
        | nil => cases ys with
          | nil => rfl
          | cons _ _ => exact hr.elim
        | cons v vs ih => cases ys with
          | nil => cases v <;> exact hr.elim
          | cons y ys => cases v <;> try exact hr.elim
                         exact congrArg (· + 1) (ih ys hr.2)
      rw [List.length_append, z, List.length_map]
      simp only [List.length_cons, List.length_nil] at hl ⊢
      omega
    subst hx
    obtain ⟨parts, rt, G⟩ := goodE e
    have hr30 := rOf_lt e
    show BackOK w (.str (repE e) tx :: (vs ++ [.str (goalW y) tg])) (turnV (qOf e) ((rOf e : Int) + 1) (backV es y)) (es.length + 1)
    unfold repE at G ⊢
    rcases sign_cases e with ⟨hq, hi5⟩ | ⟨hq, hi5⟩ | ⟨hq, hi5⟩ | ⟨hq, hi5⟩ <;> (unfold repE at hi5; rw [hq] at G hi5 ⊢)
    · exact back1_0 G hr30 hi5 ih hvl
    · exact back1_1 G hr30 hi5 ih hvl
    · exact back1_2 G hr30 hi5 ih hvl
    · exact back1_3 G hr30 hi5 ih hvl
end Mine

namespace Mine
set_option maxHeartbeats 2000000
theorem chainGet {R : List (Addr × Obj)} {v : Value} : ∀ (vs : List Value) (es : List Nat) (i : Nat), ChainIn R vs (es.map chE) → vs[i]? = some v → ∃ e a t1 t2, es[i]? = some e ∧ v = .ref a ∧ (a, tupIP (markS (qOf e)) ((rOf e : Int) + 1) t1 t2) ∈ R := by
  intro vs
  induction vs with
  | nil => intro es i _ hv; simp at hv
  | cons u vs ih =>
    intro es i h hv
    cases es with
    | nil => cases u <;> exact h.elim
    | cons e es =>
      cases u <;> try exact h.elim
      rename_i a
      cases i with
      | zero =>
        obtain ⟨t1, t2, hm⟩ := h.1
        simp at hv
        exact ⟨e, a, t1, t2, rfl, hv.symm, hm⟩
      | succ i => exact ih es i h.2.2 (by simpa using hv)
theorem newsNum {h₀ h : Heap} {L : Addr} {o i c e : Addr × Obj} {R : List (Addr × Obj)} (N : News h₀ L h (o :: i :: c :: e :: R)) : News h₀ L h (i :: c :: e :: o :: R) := fun p hp => N p (by
  simp only [List.mem_cons] at hp ⊢
  rcases hp with h | h | h | h | h <;> simp only [h, true_or, or_true])
noncomputable def Stop8y (P : Prop) : Prop := P
theorem Stop8y.go {P : Prop} (h : Stop8y P) : P := h
local macro_rules | `(tactic| walk_at "Exists") => `(tactic| refine Stop8y.go ?_)
local macro_rules | `(tactic| walk_at "subscriptTail") => `(tactic| (k_here; (with_reducible show wpAny _ _ (subscriptTail _ _ (Value.ref _) (Value.str _ _)) _ _ _); (refine kda_item (knd := PySem.strKind _ _) (by k_asm) ?ym (by with_reducible assumption) (strKind_is _ _ _ _) (by rfl) ?_); (case ym => k_mem)))
theorem nums_code (w : World) (dp un : Nat) (gd : Option (List Code)) (a : Addr) (ccd : Value) (c1 c2 : Addr) (outer : List Env) (A₀ : Around) (base h₀ : Heap) (L : Addr) (m : Str → Option Value) (s : Shared) (p : Program) (loose : List Str) (mean : ExcName → Option Value) (mg mb : Str → Option Value)
    (Rr : Result → Shared → Prop)
    (B : Below A₀ base outer h₀) (F : Fr h₀ L s.heap m) (X : (wPart w.params).In h₀) (T : Top p loose mean mg mb h₀)
    (hcd : CodeHd base 116 112) (hd : dp + 80 < 1000) (hu : un + 900 < 9900)
  {E : Value → Shared → Prop} {Q : Value → Shared → Prop} (R : List (Addr × Obj)) {ch dn : Addr} {o2 od : Obj} {vsC : List Value} {kc : Nat} {es : List Nat} {ta1 ta2 ta3 ta4 tb1 tb2 tb3 tb4 : Tok}
  (N : News h₀ L s.heap R) (hc2 : (c2, o2) ∈ R) (ho2 : o2.data = .cell (some (.ref dn))) (hdn : (dn, od) ∈ R) (hlo : (dn == sysModules) = false) (hod : Obj.IsDictOf (PySem.strKind P1 w) od (strPairs [(Value.str (Str.ofString "+") ta1, Value.int 14 tb1), (Value.str (Str.ofString "-") ta2, Value.int 15 tb2), (Value.str (Str.ofString "*") ta3, Value.int 16 tb3), (Value.str (Str.ofString "/") ta4, Value.int 17 tb4)]))
  (hch : (ch, W.listOf vsC.toArray kc) ∈ R) (hm : m "chain" = some (.ref ch)) (hC : ChainIn R vsC (es.map chE)) (hes : es.length ≤ 6)
  (ret : ∀ h' tk' D us TP, Fr h₀ L h' m → News h₀ L h' ((D, LCg.lst us) :: (TP ++ R)) → PairsIn TP us (es.map toldE) → Q (.ref D) { s with heap := h', toks := tk' }) :
    wpAny (model P1 w) (ktrTop dp un gd "law" lawS L a ccd [(Str.ofString "numbers", c2), (Str.ofString "lexer", c1)] outer) (eval lawC9 (envX "law" lawS L a ccd [(Str.ofString "numbers", c2), (Str.ofString "lexer", c1)])) Q E s := by
  dsimp only [lawC9, lawC90]
  refine LCp.ListComp_P F rfl (by decide +kernel) rfl (by decide +kernel) rfl rfl (by decide) ?_
  refine nameX_L F hm ?_
  have hvl : vsC.length = es.length := by have z := chainLen hC; rw [List.length_map] at z; exact z
  refine LCp.SrcLP.ledger (k := kc) rfl F N hch ?_ fun g => ?_
  · rw [List.size_toArray, hvl]; exact Nat.le_trans hes (Nat.le_of_ble_eq_true rfl)
  refine compInvP vsC.toArray.size (fun i ys news => ∃ TP, news = TP ++ R ∧ PairsIn TP ys ((es.take i).map toldE)) ?fin ?src _ 0 [] _ (by omega) ⟨[], rfl, trivial⟩
  case fin =>
    rintro ys news ⟨TP, rfl, hP⟩ D h tk F9 N9 hoff
    rw [List.size_toArray, hvl, List.take_of_length_le (Nat.le_refl _)] at hP
    exact ret _ _ _ _ _ F9 N9 hP
  case src =>
    rintro i ys news v hi ⟨TP, rfl, hP⟩ hP2
    have hil : i < es.length := by rw [List.size_toArray, hvl] at hi; exact hi
    obtain ⟨e, at1, t1, t2, he, rfl, hmem⟩ := chainGet _ _ _ hC (by simpa using hP2)
    refine ⟨at1, _, _, _, _, rfl, List.mem_append_right _ hmem, rfl, rfl, ?_⟩
    intro I oI C oC D m₂ h tk E' hns hm2 hm3 F9 N9 hoff hne3
    have htk : (es.take (i + 1)).map toldE = (es.take i).map toldE ++ [toldE e] := by
      rw [List.take_succ, he, Option.toList_some, List.map_append]; rfl
    have hdnR : (dn, od) ∈ TP ++ R := List.mem_append_right _ hdn
    have hc2R : (c2, o2) ∈ TP ++ R := List.mem_append_right _ hc2
    have hq4 := qOf_lt e
    have c : qOf e = 0 ∨ qOf e = 1 ∨ qOf e = 2 ∨ qOf e = 3 := by omega
    have s0 : markS 0 = Str.ofString "+" := by decide +kernel
    have s1 : markS 1 = Str.ofString "-" := by decide +kernel
    have s2 : markS 2 = Str.ofString "*" := by decide +kernel
    have s3 : markS 3 = Str.ofString "/" := by decide +kernel
    rcases c with hq | hq | hq | hq
    · have hE : toldE e = (14, (rOf e : Int) + 1) := by unfold toldE; rw [hq]; rfl
      rw [hq, s0] at hm2
      k_steps
      unfold Stop8y
      rename Fr h₀ _ _ _ => kF; rename News h₀ _ _ _ => kN; rename (@LT.lt Nat _ I _ ∧ _) => l9
      refine ⟨_, _, _, rfl, kF, newsNum kN, offNew hoff ⟨l9.1, l9.2.1, l9.2.2.1⟩, .inr ⟨_, .tail _ (List.mem_append_right _ hch), rfl, _, rfl⟩, _ :: TP, rfl, ?_⟩
      rw [htk, hE]
      exact (hP.mono fun p hp => .tail _ hp).snoc ⟨_, _, .head _⟩
    · have hE : toldE e = (15, (rOf e : Int) + 1) := by unfold toldE; rw [hq]; rfl
      rw [hq, s1] at hm2
      k_steps
      unfold Stop8y
      rename Fr h₀ _ _ _ => kF; rename News h₀ _ _ _ => kN; rename (@LT.lt Nat _ I _ ∧ _) => l9
      refine ⟨_, _, _, rfl, kF, newsNum kN, offNew hoff ⟨l9.1, l9.2.1, l9.2.2.1⟩, .inr ⟨_, .tail _ (List.mem_append_right _ hch), rfl, _, rfl⟩, _ :: TP, rfl, ?_⟩
      rw [htk, hE]
      exact (hP.mono fun p hp => .tail _ hp).snoc ⟨_, _, .head _⟩
    · have hE : toldE e = (16, (rOf e : Int) + 1) := by unfold toldE; rw [hq]; rfl
      rw [hq, s2] at hm2
      k_steps
      unfold Stop8y
      rename Fr h₀ _ _ _ => kF; rename News h₀ _ _ _ => kN; rename (@LT.lt Nat _ I _ ∧ _) => l9
      refine ⟨_, _, _, rfl, kF, newsNum kN, offNew hoff ⟨l9.1, l9.2.1, l9.2.2.1⟩, .inr ⟨_, .tail _ (List.mem_append_right _ hch), rfl, _, rfl⟩, _ :: TP, rfl, ?_⟩
      rw [htk, hE]
      exact (hP.mono fun p hp => .tail _ hp).snoc ⟨_, _, .head _⟩
    · have hE : toldE e = (17, (rOf e : Int) + 1) := by unfold toldE; rw [hq]; rfl
      rw [hq, s3] at hm2
      k_steps
      unfold Stop8y
      rename Fr h₀ _ _ _ => kF; rename News h₀ _ _ _ => kN; rename (@LT.lt Nat _ I _ ∧ _) => l9
      refine ⟨_, _, _, rfl, kF, newsNum kN, offNew hoff ⟨l9.1, l9.2.1, l9.2.2.1⟩, .inr ⟨_, .tail _ (List.mem_append_right _ hch), rfl, _, rfl⟩, _ :: TP, rfl, ?_⟩
      rw [htk, hE]
      exact (hP.mono fun p hp => .tail _ hp).snoc ⟨_, _, .head _⟩
end Mine

namespace Mine
set_option maxHeartbeats 2000000
theorem newsSw {h₀ h : Heap} {L : Addr} {i x : Addr × Obj} {R : List (Addr × Obj)} (N : News h₀ L h (i :: x :: R)) : News h₀ L h (x :: i :: R) := fun p hp => N p (by
  simp only [List.mem_cons] at hp ⊢
  rcases hp with h | h | h <;> simp only [h, true_or, or_true])
theorem offCons {R : List (Addr × Obj)} {i : Addr × Obj} {b : Addr} (h : OwnOff R [b]) (hi : i.1 ≠ b) : OwnOff (i :: R) [b] := fun p hp c hc => by
  rw [List.mem_singleton.mp hc]
  rcases List.mem_cons.mp hp with rfl | hp
  · exact hi
  · exact h p hp b (.head _)
local macro_rules | `(tactic| walk_at "call ref") => `(tactic| (k_here; (try dsimp only [List.append_nil, List.cons_append, List.nil_append]); (with_reducible show wpAny _ _ (call (Value.ref 100) [Value.ref _, Value.str _ _]) _ _ _); k_dflt (refine' wpAny_call (push_code _ _ _ _ _ _ _ _ _ _ _ _ _ _ _ _ _ _ _ _ _ _ ?yB ?yF ?yX ?yT ?yhk ?yhcd ?yhd ?yhu _ ?yN ?yi1 ?yi2 ?yhoff ?yhvs ?_); (case yB => k_asm); (case yF => k_asm); (case yX => k_asm); (case yT => k_asm); (case yhk => first | rfl | assumption); (case yhcd => assumption); (case yhoff => assumption); (case yN => first | with_reducible assumption | exact newsSw (by with_reducible assumption)); (case yi1 => k_mem); (case yi2 => k_mem); (case yhvs => first | assumption | decide | omega); (case yhd => show _ + 40 < 1000; (try dsimp only [ktrTop]); omega); (case yhu => show _ + 500 < 9900; (try dsimp only [ktrTop]); omega); k_whole; intro h' tk' k' F' N'; (try dsimp only at N'); (try k_sweep))))
noncomputable def Stop6e (P : Prop) : Prop := P
theorem Stop6e.go {P : Prop} (h : Stop6e P) : P := h
local macro_rules | `(tactic| walk_at "execs nil") => `(tactic| refine Stop6e.go ?_)
local macro_rules | `(tactic| walk_at "UnrEndW") => `(tactic| refine Stop6e.go ?_)
theorem pushes_code (w : World) (dp un : Nat) (gd : Option (List Code)) (a : Addr) (ccd : Value) (c1 c2 : Addr) (A₀ : Around) (base h₀ : Heap) (L : Addr) (m : Str → Option Value) (s : Shared) (p : Program) (loose : List Str) (mean : ExcName → Option Value) (mg mb : Str → Option Value)
    (Rr : Result → Shared → Prop)
    (B : Below A₀ base [] h₀) (F : Fr h₀ L s.heap m) (X : (wPart w.params).In h₀) (T : Top p loose mean mg mb h₀)
    (hcd : CodeHd base 116 112) (hd : dp + 80 < 1000) (hu : un + 900 < 9900)
  {E : Value → Shared → Prop} {Q : Flow → Shared → Prop} (hE : PassesOwn (model P1 w) (ktrTop dp un gd "law" lawS L a ccd [(Str.ofString "numbers", c2), (Str.ofString "lexer", c1)] []) (envX "law" lawS L a ccd [(Str.ofString "numbers", c2), (Str.ofString "lexer", c1)]) E) (R : List (Addr × Obj)) {lx dx st pb : Addr} {o1 : Obj} {kp : Nat} {n : Int} {tn t1 t2 t3 t4 t5 : Tok}
  (N : News h₀ L s.heap ((pb, W.listOf ([] : List Value).toArray kp) :: R)) (i1 : (lx, instObj 103 dx) ∈ R) (i2 : (dx, lexD w n tn st pb t1 t2 t3 t4 t5) ∈ R) (hoff : OwnOff R [pb]) (hc1 : (c1, o1) ∈ R) (hc1d : o1.data = .cell (some (.ref lx))) {Dw : Addr} {ws : List Value} {ys : List Str} {kw : Nat} (hwd : (Dw, W.listOf ws.toArray kw) ∈ R) (hT : TxtsAre ws ys) (hl : ws.length ≤ 10) (hm : m "words" = some (.ref Dw))
  (ret : ∀ h' tk' m' kp', Fr h₀ L h' m' → (∀ z, z ≠ Str.ofString "word" → m' z = m z) → News h₀ L h' ((pb, W.listOf ws.toArray kp') :: R) → Q .next { s with heap := h', toks := tk' }) :
    wpAny (model P1 w) (ktrTop dp un gd "law" lawS L a ccd [(Str.ofString "numbers", c2), (Str.ofString "lexer", c1)] []) (exec lawP (envX "law" lawS L a ccd [(Str.ofString "numbers", c2), (Str.ofString "lexer", c1)])) Q E s := by
  dsimp only [lawP, lawP0]
  refine For_turns (hE := hE) F ?_
  refine nameX_L F hm ?_
  refine iter_listTurns (n := kw) (lo := W.listOf ws.toArray kw) rfl F N (.tail _ hwd) rfl rfl ?_
  intro I hI
  refine itemsRest_of2 (fun vs' m1 news => ∃ (dn : List Value) (kp : Nat), ws = dn ++ vs' ∧ news = (pb, W.listOf dn.toArray kp) :: R ∧ (∀ z, z ≠ Str.ofString "word" → m1 z = m z)) ?z ?s ws m _ ⟨[], kp, rfl, rfl, fun _ _ => rfl⟩
  case z =>
    rintro m1 news ⟨dn, kp, e1, rfl, e2⟩ h tk F9 N9
    rw [List.append_nil] at e1
    subst e1
    exact ret _ _ _ _ F9 e2 N9
  case s =>
    rintro v r m1 news ⟨dn, kp, e1, rfl, e2⟩ IH
    have hv : ∃ x t, v = .str x t := by
      have : ws[dn.length]? = some v := by rw [e1]; simp
      obtain ⟨y, t, _, e⟩ := txtsGet _ _ _ hT this
      exact ⟨y, t, e⟩
    obtain ⟨x, tx, rfl⟩ := hv
    refine ItemsRest.val (fun h tk F9 => AllObj.cons (fun oI hoI => AllObj.nil (fun N9 => ?_)))
    simp only [List.cons_append, List.nil_append] at N9
    have hpI : @LT.lt Nat _ pb I := hI _ (.head _)
    have hoff2 : OwnOff ((I, oI) :: R) [pb] := offCons hoff (Nat.ne_of_gt hpI)
    have hdl : dn.length ≤ 100 := by have z := congrArg List.length e1; rw [List.length_append] at z; omega
    clear hoff
    dsimp only [lawS, lawS0]
    k_steps
    unfold Stop6e
    dsimp only
    refine wpAny_execs_nil ?_
    dsimp only [UnrPostW]
    rename Fr h₀ _ _ _ => kF; rename News h₀ _ _ _ => kN
    refine ⟨_, _, _, (pb, W.listOf (dn ++ [Value.str x tx]).toArray _) :: R, rfl, kF, newsSw kN, ?_, ⟨.tail _ hwd, trivial⟩, IH _ _ ⟨dn ++ [Value.str x tx], _, by rw [e1, List.append_assoc]; rfl, rfl, ?_⟩⟩
    · intro p hp q hq
      rw [List.mem_singleton.mp hq]
      rcases List.mem_cons.mp hp with rfl | hp
      · exact Nat.ne_of_lt hpI
      · exact Nat.ne_of_lt (hI p (.tail _ hp))
    · intro z hz
      rw [if_neg hz]
      exact e2 z hz
end Mine

namespace Mine
set_option maxHeartbeats 1000000
theorem intsGet {v : Value} : ∀ (vs : List Value) (ns : List Int) (i : Nat), IntsAre vs ns → vs[i]? = some v → ∃ n t, v = .int n t := by
  intro vs ns i h
  induction h generalizing i with
  | nil => intro hv; simp at hv
  | cons n t h ih =>
    intro hv
    cases i with
    | zero => simp at hv; exact ⟨n, t, hv.symm⟩
    | succ i => exact ih i (by simpa using hv)
local macro_rules | `(tactic| walk_at "call ref") => `(tactic| (k_here; (try dsimp only [List.append_nil, List.cons_append, List.nil_append]); (with_reducible show wpAny _ _ (call (Value.ref 129) [Value.int _ _]) _ _ _); k_dflt (refine' wpAny_call (capped_code _ _ _ _ _ _ _ _ _ _ _ _ _ _ _ _ _ _ _ _ _ _ ?yB ?yF ?yX ?yT ?yhk ?yhcd ?yhd ?yhu _ ?yN ?_); (case yB => k_asm); (case yF => k_asm); (case yX => k_asm); (case yT => k_asm); (case yhk => first | rfl | assumption); (case yhcd => assumption); (case yN => k_asm); (case yhd => show _ + 40 < 1000; (try dsimp only [ktrTop]); omega); (case yhu => show _ + 500 < 9900; (try dsimp only [ktrTop]); omega); k_whole; intro h' tk' t' y' b1 b2 F' N'; (try k_sweep))))
noncomputable def StopZ (P : Prop) : Prop := P
theorem StopZ.go {P : Prop} (h : StopZ P) : P := h
local macro_rules | `(tactic| walk_at "Exists") => `(tactic| refine StopZ.go ?_)
local macro_rules | `(tactic| walk_at "Or") => `(tactic| refine StopZ.go ?_)
local macro_rules | `(tactic| walk_at "CompSrc") => `(tactic| refine StopZ.go ?_)
local macro_rules | `(tactic| walk_at "subscriptTail") => `(tactic| (k_here; (with_reducible show wpAny _ _ (subscriptTail _ (PySem.Expr.Slice _ _ none _) (Value.ref _) (Value.ref _)) _ _ _); (refine kba_turn (value' := PySem.Expr.Name (PySem.Str.ofString "_") ⟨0, 0, 0, 0⟩) (fun _ => rfl) ?_); k_dflt (refine' kmk_slice_ints ?yF ?yN ?yl ?yp ?yq ?yi (pickN ?yii 2) ?yc ?_ ?ys ?yt ?yz; (case yF => k_asm); (case yN => k_asm); (case yl => kmk_list); (case yp => kmk_part); (case yq => exact IsPart.int _ _); (case yi => assumption); (case yii => assumption); (case yc => exact rfl); (case ys => with_unfolding_all rfl); (case yt => kmk_pure); (case yz => exact intsLen (by assumption) (by simp only [List.length_append, List.length_cons, List.length_nil]; omega))); intro D' ws' h' F' N' l1 hI' hC' hL'; (try k_lt l1)))
local macro_rules | `(tactic| walk_at "subscriptTail Name Slice") => `(tactic| (k_here; (with_reducible show wpAny _ _ (subscriptTail _ (PySem.Expr.Slice _ _ none _) (Value.ref _) (Value.ref _)) _ _ _); (refine kba_turn (value' := PySem.Expr.Name (PySem.Str.ofString "_") ⟨0, 0, 0, 0⟩) (fun _ => rfl) ?_); k_dflt (refine' kmk_slice_ints ?yF ?yN ?yl ?yp ?yq ?yi (pickN ?yii 2) ?yc ?_ ?ys ?yt ?yz; (case yF => k_asm); (case yN => k_asm); (case yl => kmk_list); (case yp => kmk_part); (case yq => exact IsPart.int _ _); (case yi => assumption); (case yii => assumption); (case yc => exact rfl); (case ys => with_unfolding_all rfl); (case yt => kmk_pure); (case yz => exact intsLen (by assumption) (by simp only [List.length_append, List.length_cons, List.length_nil]; omega))); intro D' ws' h' F' N' l1 hI' hC' hL'; (try k_lt l1)))
local macro_rules | `(tactic| walk_at "subscriptTail Name Slice ref ref") => `(tactic| (k_here; (with_reducible show wpAny _ _ (subscriptTail _ (PySem.Expr.Slice _ _ none _) (Value.ref _) (Value.ref _)) _ _ _); (refine kba_turn (value' := PySem.Expr.Name (PySem.Str.ofString "_") ⟨0, 0, 0, 0⟩) (fun _ => rfl) ?_); k_dflt (refine' kmk_slice_ints ?yF ?yN ?yl ?yp ?yq ?yi (pickN ?yii 2) ?yc ?_ ?ys ?yt ?yz; (case yF => k_asm); (case yN => k_asm); (case yl => kmk_list); (case yp => kmk_part); (case yq => exact IsPart.int _ _); (case yi => assumption); (case yii => assumption); (case yc => exact rfl); (case ys => with_unfolding_all rfl); (case yt => kmk_pure); (case yz => exact intsLen (by assumption) (by simp only [List.length_append, List.length_cons, List.length_nil]; omega))); intro D' ws' h' F' N' l1 hI' hC' hL'; (try k_lt l1)))
theorem caps2_code (w : World) (dp un : Nat) (gd : Option (List Code)) (a : Addr) (ccd : Value) (c1 c2 : Addr) (A₀ : Around) (base h₀ : Heap) (L : Addr) (m : Str → Option Value) (s : Shared) (p : Program) (loose : List Str) (mean : ExcName → Option Value) (mg mb : Str → Option Value)
    (Rr : Result → Shared → Prop)
    (B : Below A₀ base [] h₀) (F : Fr h₀ L s.heap m) (X : (wPart w.params).In h₀) (T : Top p loose mean mg mb h₀)
    (hcd : CodeHd base 116 112) (hd : dp + 80 < 1000) (hu : un + 900 < 9900)
  {E : Value → Shared → Prop} {Q : Value → Shared → Prop} (R : List (Addr × Obj)) {sc : Addr} {sv : List Value} {nsc : List Int} (N : News h₀ L s.heap R) (hm : m "script" = some (.ref sc)) (hsl : h₀.IsList sc sv.toArray) (hsi : IntsAre sv nsc) (h63 : nsc.length ≤ 63)
  (ret : ∀ h' tk' D us ys, Fr h₀ L h' m → News h₀ L h' ((D, LCg.lst us) :: R) → IntsAre us ys → (∀ y ∈ ys, -(10^24) < y ∧ y < 10^24) → ys.length ≤ 2 → Q (.ref D) { s with heap := h', toks := tk' }) :
    wpAny (model P1 w) (ktrTop dp un gd "law" lawS L a ccd [(Str.ofString "numbers", c2), (Str.ofString "lexer", c1)] []) (eval lawCap2 (envX "law" lawS L a ccd [(Str.ofString "numbers", c2), (Str.ofString "lexer", c1)])) Q E s := by
  dsimp only [lawCap2, lawCap20]
  have em := setBack1 hm
  rw [em] at F
  refine LCg.ListComp_U F rfl (by decide +kernel) rfl (by decide +kernel) rfl ?_
  k_steps
  unfold StopZ
  rename_i D6 ws6 h6 F6 N6 l6 hI6 hC6 hL6
  have hwl : ws6.length = (nsc.take 2).length := hI6.length
  have hnl : (nsc.take 2).length ≤ 2 := List.length_take_le _ _
  refine LCg.CompSrc.ledger (k := 0) rfl F6 N6 (.head _) ?_ fun g => ?_
  · rw [List.size_toArray, hwl]; exact Nat.le_trans hnl (Nat.le_of_ble_eq_true rfl)
  refine compInv ws6.toArray.size (fun i us news => news = (D6, W.listOf ws6.toArray 0) :: R ∧ ∃ ys, IntsAre us ys ∧ (∀ y ∈ ys, -(10^24) < y ∧ y < 10^24) ∧ ys.length = i) ?fin ?step _ 0 [] _ (by omega) ⟨rfl, [], .nil, (fun y hy => (nomatch hy)), rfl⟩
  case fin =>
    rintro us news ⟨rfl, ys, hi1, hi2, hi3⟩ D h tk F9 N9 hoff
    rw [← em] at F9
    exact ret _ _ _ _ _ F9 (fun p hp => N9 p (by rcases List.mem_cons.mp hp with rfl | hp; exact .head _; exact .tail _ (.tail _ hp))) hi1 hi2 (by rw [hi3, List.size_toArray, hwl]; exact hnl)
  case step =>
    rintro i us news v I oI C oC D m₂ h tk E' hi ⟨rfl, ys, hi1, hi2, hi3⟩ hP hns hm2 F9 N9 hoff hne3
    obtain ⟨x, t, rfl⟩ := intsGet _ _ _ hI6 (by simpa using hP)
    dsimp only [lawS, lawS0]
    k_steps
    unfold StopZ
    rename Fr h₀ _ _ _ => kF; rename News h₀ _ _ _ => kN; rename (-(10^24) < _) => b1; rename (_ < 10^24) => b2
    refine ⟨_, _, _, rfl, kF, kN, hoff, .inr ⟨_, .head _, rfl, _, rfl⟩, rfl, ys ++ [_], hi1.append (.cons _ _ .nil), ?_, ?_⟩
    · intro y hy
      rcases List.mem_append.mp hy with hy | hy
      · exact hi2 y hy
      · rw [List.mem_singleton.mp hy]; exact ⟨b1, b2⟩
    · rw [List.length_append, hi3]; rfl
local macro_rules | `(tactic| walk_at "subscriptTail") => `(tactic| (k_here; (with_reducible show wpAny _ _ (subscriptTail _ (PySem.Expr.Slice _ _ none _) (Value.ref _) (Value.ref _)) _ _ _); (refine kba_turn (value' := PySem.Expr.Name (PySem.Str.ofString "_") ⟨0, 0, 0, 0⟩) (fun _ => rfl) ?_); k_dflt (refine' kmk_slice_ints ?yF ?yN ?yl ?yp ?yq ?yi (pickN ?yii 3) ?yc ?_ ?ys ?yt ?yz; (case yF => k_asm); (case yN => k_asm); (case yl => kmk_list); (case yp => kmk_part); (case yq => exact IsPart.int _ _); (case yi => assumption); (case yii => assumption); (case yc => exact rfl); (case ys => with_unfolding_all rfl); (case yt => kmk_pure); (case yz => exact intsLen (by assumption) (by simp only [List.length_append, List.length_cons, List.length_nil]; omega))); intro D' ws' h' F' N' l1 hI' hC' hL'; (try k_lt l1)))
local macro_rules | `(tactic| walk_at "subscriptTail Name Slice") => `(tactic| (k_here; (with_reducible show wpAny _ _ (subscriptTail _ (PySem.Expr.Slice _ _ none _) (Value.ref _) (Value.ref _)) _ _ _); (refine kba_turn (value' := PySem.Expr.Name (PySem.Str.ofString "_") ⟨0, 0, 0, 0⟩) (fun _ => rfl) ?_); k_dflt (refine' kmk_slice_ints ?yF ?yN ?yl ?yp ?yq ?yi (pickN ?yii 3) ?yc ?_ ?ys ?yt ?yz; (case yF => k_asm); (case yN => k_asm); (case yl => kmk_list); (case yp => kmk_part); (case yq => exact IsPart.int _ _); (case yi => assumption); (case yii => assumption); (case yc => exact rfl); (case ys => with_unfolding_all rfl); (case yt => kmk_pure); (case yz => exact intsLen (by assumption) (by simp only [List.length_append, List.length_cons, List.length_nil]; omega))); intro D' ws' h' F' N' l1 hI' hC' hL'; (try k_lt l1)))
local macro_rules | `(tactic| walk_at "subscriptTail Name Slice ref ref") => `(tactic| (k_here; (with_reducible show wpAny _ _ (subscriptTail _ (PySem.Expr.Slice _ _ none _) (Value.ref _) (Value.ref _)) _ _ _); (refine kba_turn (value' := PySem.Expr.Name (PySem.Str.ofString "_") ⟨0, 0, 0, 0⟩) (fun _ => rfl) ?_); k_dflt (refine' kmk_slice_ints ?yF ?yN ?yl ?yp ?yq ?yi (pickN ?yii 3) ?yc ?_ ?ys ?yt ?yz; (case yF => k_asm); (case yN => k_asm); (case yl => kmk_list); (case yp => kmk_part); (case yq => exact IsPart.int _ _); (case yi => assumption); (case yii => assumption); (case yc => exact rfl); (case ys => with_unfolding_all rfl); (case yt => kmk_pure); (case yz => exact intsLen (by assumption) (by simp only [List.length_append, List.length_cons, List.length_nil]; omega))); intro D' ws' h' F' N' l1 hI' hC' hL'; (try k_lt l1)))
theorem caps3_code (w : World) (dp un : Nat) (gd : Option (List Code)) (a : Addr) (ccd : Value) (c1 c2 : Addr) (A₀ : Around) (base h₀ : Heap) (L : Addr) (m : Str → Option Value) (s : Shared) (p : Program) (loose : List Str) (mean : ExcName → Option Value) (mg mb : Str → Option Value)
    (Rr : Result → Shared → Prop)
    (B : Below A₀ base [] h₀) (F : Fr h₀ L s.heap m) (X : (wPart w.params).In h₀) (T : Top p loose mean mg mb h₀)
    (hcd : CodeHd base 116 112) (hd : dp + 80 < 1000) (hu : un + 900 < 9900)
  {E : Value → Shared → Prop} {Q : Value → Shared → Prop} (R : List (Addr × Obj)) {sc : Addr} {sv : List Value} {nsc : List Int} (N : News h₀ L s.heap R) (hm : m "script" = some (.ref sc)) (hsl : h₀.IsList sc sv.toArray) (hsi : IntsAre sv nsc) (h63 : nsc.length ≤ 63)
  (ret : ∀ h' tk' D us ys, Fr h₀ L h' m → News h₀ L h' ((D, LCg.lst us) :: R) → IntsAre us ys → (∀ y ∈ ys, -(10^24) < y ∧ y < 10^24) → ys.length ≤ 3 → Q (.ref D) { s with heap := h', toks := tk' }) :
    wpAny (model P1 w) (ktrTop dp un gd "law" lawS L a ccd [(Str.ofString "numbers", c2), (Str.ofString "lexer", c1)] []) (eval lawCap3 (envX "law" lawS L a ccd [(Str.ofString "numbers", c2), (Str.ofString "lexer", c1)])) Q E s := by
  dsimp only [lawCap3, lawCap30]
  have em := setBack1 hm
  rw [em] at F
  refine LCg.ListComp_U F rfl (by decide +kernel) rfl (by decide +kernel) rfl ?_
  k_steps
  unfold StopZ
  rename_i D6 ws6 h6 F6 N6 l6 hI6 hC6 hL6
  have hwl : ws6.length = (nsc.take 3).length := hI6.length
  have hnl : (nsc.take 3).length ≤ 3 := List.length_take_le _ _
  refine LCg.CompSrc.ledger (k := 0) rfl F6 N6 (.head _) ?_ fun g => ?_
  · rw [List.size_toArray, hwl]; exact Nat.le_trans hnl (Nat.le_of_ble_eq_true rfl)
  refine compInv ws6.toArray.size (fun i us news => news = (D6, W.listOf ws6.toArray 0) :: R ∧ ∃ ys, IntsAre us ys ∧ (∀ y ∈ ys, -(10^24) < y ∧ y < 10^24) ∧ ys.length = i) ?fin ?step _ 0 [] _ (by omega) ⟨rfl, [], .nil, (fun y hy => (nomatch hy)), rfl⟩
  case fin =>
    rintro us news ⟨rfl, ys, hi1, hi2, hi3⟩ D h tk F9 N9 hoff
    rw [← em] at F9
    exact ret _ _ _ _ _ F9 (fun p hp => N9 p (by rcases List.mem_cons.mp hp with rfl | hp; exact .head _; exact .tail _ (.tail _ hp))) hi1 hi2 (by rw [hi3, List.size_toArray, hwl]; exact hnl)
  case step =>
    rintro i us news v I oI C oC D m₂ h tk E' hi ⟨rfl, ys, hi1, hi2, hi3⟩ hP hns hm2 F9 N9 hoff hne3
    obtain ⟨x, t, rfl⟩ := intsGet _ _ _ hI6 (by simpa using hP)
    dsimp only [lawS, lawS0]
    k_steps
    unfold StopZ
    rename Fr h₀ _ _ _ => kF; rename News h₀ _ _ _ => kN; rename (-(10^24) < _) => b1; rename (_ < 10^24) => b2
    refine ⟨_, _, _, rfl, kF, kN, hoff, .inr ⟨_, .head _, rfl, _, rfl⟩, rfl, ys ++ [_], hi1.append (.cons _ _ .nil), ?_, ?_⟩
    · intro y hy
      rcases List.mem_append.mp hy with hy | hy
      · exact hi2 y hy
      · rw [List.mem_singleton.mp hy]; exact ⟨b1, b2⟩
    · rw [List.length_append, hi3]; rfl
end Mine

namespace Mine
set_option maxHeartbeats 2000000
theorem setBack3 {m1 : Str → Option Value} {x1 x2 x3 : Str} {v1 v2 v3 : Value} (h1 : m1 x1 = some v1) (h2 : m1 x2 = some v2) (h3 : m1 x3 = some v3) :
    m1 = fun y => if y = x1 then some v1 else if y = x2 then some v2 else if y = x3 then some v3 else m1 y := by
  funext y
  by_cases e1 : y = x1
  · rw [if_pos e1, e1, h1]
  rw [if_neg e1]
  by_cases e2 : y = x2
  · rw [if_pos e2, e2, h2]
  rw [if_neg e2]
  by_cases e3 : y = x3
  · rw [if_pos e3, e3, h3]
  rw [if_neg e3]
local macro_rules | `(tactic| walk_at "call ref") => `(tactic| (k_here; (try dsimp only [List.append_nil, List.cons_append, List.nil_append]); (with_reducible show wpAny _ _ (call (Value.ref 136) [Value.ref _, Value.int _ _]) _ _ _); k_dflt (refine' wpAny_call (led_code _ _ _ _ _ _ _ _ _ _ _ _ _ _ _ _ _ _ _ _ _ _ ?yB ?yF ?yX ?yT ?yhk ?yhcd ?yhd ?yhu _ ?yN ?yic ?yhc ?_); (case yB => k_asm); (case yF => k_asm); (case yX => k_asm); (case yT => k_asm); (case yhk => first | rfl | assumption); (case yhcd => assumption); (case yN => k_asm); (case yic => k_mem); (case yhc => exact chainMono (fun p hp => .tail _ (.tail _ hp)) (by assumption)); (case yhd => show _ + 40 < 1000; (try dsimp only [ktrTop]); omega); (case yhu => show _ + 500 < 9900; (try dsimp only [ktrTop]); omega); k_whole; intro h' tk' t' F' N'; (try k_sweep))))
noncomputable def StopL (P : Prop) : Prop := P
theorem StopL.go {P : Prop} (h : StopL P) : P := h
local macro_rules | `(tactic| walk_at "eval ListComp") => `(tactic| refine StopL.go ?_)
local macro_rules | `(tactic| walk_at "pyIter ref") => `(tactic| refine StopL.go ?_)
noncomputable def Stop6f (P : Prop) : Prop := P
theorem Stop6f.go {P : Prop} (h : Stop6f P) : P := h
local macro_rules | `(tactic| walk_at "execs nil") => `(tactic| refine Stop6f.go ?_)
local macro_rules | `(tactic| walk_at "UnrEndW") => `(tactic| refine Stop6f.go ?_)
theorem check_code (w : World) (dp un : Nat) (gd : Option (List Code)) (a : Addr) (ccd : Value) (c1 c2 : Addr) (A₀ : Around) (base h₀ : Heap) (L : Addr) (m : Str → Option Value) (s : Shared) (p : Program) (loose : List Str) (mean : ExcName → Option Value) (mg mb : Str → Option Value)
    (Rr : Result → Shared → Prop)
    (B : Below A₀ base [] h₀) (F : Fr h₀ L s.heap m) (X : (wPart w.params).In h₀) (T : Top p loose mean mg mb h₀)
    (hcd : CodeHd base 116 112) (hd : dp + 80 < 1000) (hu : un + 900 < 9900)
  {E : Value → Shared → Prop} {Q : Flow → Shared → Prop} (hE : PassesOwn (model P1 w) (ktrTop dp un gd "law" lawS L a ccd [(Str.ofString "numbers", c2), (Str.ofString "lexer", c1)] []) (envX "law" lawS L a ccd [(Str.ofString "numbers", c2), (Str.ofString "lexer", c1)]) E) (R : List (Addr × Obj)) {sc ch : Addr} {sv vsC : List Value} {nsc : List Int} {es : List Nat} {kc : Nat} (N : News h₀ L s.heap R) (hm1 : m "script" = some (.ref sc)) (hm2 : m "chain" = some (.ref ch)) (hsl : h₀.IsList sc sv.toArray) (hsi : IntsAre sv nsc) (h63 : nsc.length ≤ 63)
  (hch : (ch, W.listOf vsC.toArray kc) ∈ R) (hC : ChainIn R vsC (es.map chE)) {goal least : Int} {tg tl : Tok} (hm3 : m "goal" = some (.int goal tg)) (hm4 : m "least" = some (.int least tl)) (hgal : ∀ n, least ≤ n ↔ goal ≤ ledV (es.map chE) n)
  (ret : ∀ h' tk' m', Fr h₀ L h' m' → (∀ z, z ≠ Str.ofString "n" → m' z = m z) → News h₀ L h' R → Q .next { s with heap := h', toks := tk' }) :
    wpAny (model P1 w) (ktrTop dp un gd "law" lawS L a ccd [(Str.ofString "numbers", c2), (Str.ofString "lexer", c1)] []) (exec lawN (envX "law" lawS L a ccd [(Str.ofString "numbers", c2), (Str.ofString "lexer", c1)])) Q E s := by
  have em := setBack4 hm1 hm2 hm3 hm4
  rw [em] at F
  dsimp only [lawN, lawN0]
  refine For_turns (hE := hE) F ?_
  k_steps
  unfold StopL
  rename Fr h₀ _ _ _ => kF; rename News h₀ _ _ _ => kN
  refine caps3_code w dp un gd a ccd c1 c2 A₀ base h₀ L _ _ p loose mean mg mb Rr B kF X T hcd (by omega) (by omega) _ kN rfl hsl hsi h63 ?_
  intro h2 tk2 D2 us2 ys2 F2 N2 hi2 hb2 hl2
  k_steps
  unfold StopL
  rename_i D3 ws3 h3 F3 N3 hi3 l3
  have N4 : News h₀ L h3 ((D3, W.listOf ws3.toArray 0) :: R) := fun p hp => N3 p (by rcases List.mem_cons.mp hp with rfl | hp; exact .head _; exact .tail _ (.tail _ (.tail _ hp)))
  rw [← em] at F3
  refine iter_listTurns (n := 0) (lo := W.listOf ws3.toArray 0) rfl F3 N4 (.head _) rfl rfl ?_
  intro I hI
  refine itemsRest_of2 (fun vs' m1 news => (∃ ns', IntsAre vs' ns') ∧ news = (D3, W.listOf ws3.toArray 0) :: R ∧ (∀ z, z ≠ Str.ofString "n" → m1 z = m z)) ?z ?s ws3 m _ ⟨⟨_, hi3⟩, rfl, fun _ _ => rfl⟩
  case z =>
    rintro m1 news ⟨_, rfl, e2⟩ h tk F9 N9
    exact ret _ _ _ F9 e2 (fun p hp => N9 p (.tail _ hp))
  case s =>
    rintro v r m1 news ⟨⟨ns', hi⟩, rfl, e2⟩ IH
    cases hi
    rename_i n tn ns2 hi
    have f1 := (e2 "chain" (by decide)).trans hm2
    have f2 := (e2 "goal" (by decide)).trans hm3
    have f3 := (e2 "least" (by decide)).trans hm4
    refine ItemsRest.val (fun h tk F9 => AllObj.cons (fun oI hoI => AllObj.nil (fun N9 => ?_)))
    simp only [List.cons_append, List.nil_append] at N9
    have em2 := setBack3 f1 f2 f3
    rw [em2] at F9
    have hg := hgal n
    dsimp only [lawS, lawS0]
    k_steps
    · exfalso
      rename ((decide _ != decide _) = true) => hbad
      by_cases hz : least ≤ n
      · have hz2 := hg.mp hz
        simp [hz, hz2] at hbad
      · have hz2 : ¬ goal ≤ ledV (es.map chE) n := fun h => hz (hg.mpr h)
        simp [hz, hz2] at hbad
    · unfold Stop6f
      refine wpAny_execs_nil ?_
      dsimp only
      refine wpAny_execs_nil ?_
      dsimp only [UnrPostW]
      rename Fr h₀ _ _ _ => kF; rename News h₀ _ _ _ => kN
      refine ⟨_, _, _, (D3, W.listOf ws3.toArray 0) :: R, rfl, kF, kN, ?_, ⟨.head _, trivial⟩, IH _ _ ⟨⟨_, hi⟩, rfl, ?_⟩⟩
      · intro p hp q hq
        rw [List.mem_singleton.mp hq]
        exact Nat.ne_of_lt (hI p hp)
      · intro z hz
        rw [if_neg hz]
        exact (congrFun em2 z).symm.trans (e2 z hz)
end Mine

namespace Mine
set_option maxHeartbeats 2000000
theorem frTurn {h₀ h₀' h : Heap} {L : Addr} {m : Str → Option Value} (T : KtsTurn [] h₀ h₀') (F : Fr h₀' L h m) : Fr h₀ L h m := ⟨F.ns, fun b o e => F.keep b o (T.other b o e (by simp)), by rw [← T.size]; exact F.above⟩
theorem newsTurn {h₀ h₀' h : Heap} {L : Addr} {R : List (Addr × Obj)} (T : KtsTurn [] h₀ h₀') (N : News h₀' L h R) : News h₀ L h R := fun p hp => ⟨(N p hp).1, (N p hp).2.1, by
  cases q : h₀.get? p.1 with
  | none => rfl
  | some o =>
    have z := (N p hp).2.2
    rw [T.other _ _ q (by simp)] at z
    cases z⟩
noncomputable def StopF (P : Prop) : Prop := P
theorem StopF.go {P : Prop} (h : StopF P) : P := h
local macro_rules | `(tactic| walk_at "exec For") => `(tactic| refine StopF.go ?_)
local macro_rules | `(tactic| walk_at "exec For Name") => `(tactic| refine StopF.go ?_)
local macro_rules | `(tactic| walk_at "exec For Name Name") => `(tactic| refine StopF.go ?_)
local macro_rules | `(tactic| walk_at "exec For Name BinOp") => `(tactic| refine StopF.go ?_)
local macro_rules | `(tactic| walk_at "exec For Name Name cons nil") => `(tactic| refine StopF.go ?_)
local macro_rules | `(tactic| walk_at "exec For Name BinOp cons nil") => `(tactic| refine StopF.go ?_)
local macro_rules | `(tactic| walk_at "call ref") => `(tactic| (k_here; (try dsimp only [List.append_nil, List.cons_append, List.nil_append]); (with_reducible show wpAny _ _ (call (Value.ref 100) [Value.ref _, Value.str _ _]) _ _ _); k_dflt (refine' wpAny_call (push_code _ _ _ _ _ _ _ _ _ _ _ _ _ _ _ _ _ _ _ _ _ _ ?yB ?yF ?yX ?yT ?yhk ?yhcd ?yhd ?yhu _ ?yN ?yi1 ?yi2 ?yhoff ?yhvs ?_); (case yB => k_asm); (case yF => k_asm); (case yX => k_asm); (case yT => k_asm); (case yhk => first | rfl | assumption); (case yhcd => assumption); (case yhoff => assumption); (case yN => first | with_reducible assumption | exact newsSw (by with_reducible assumption)); (case yi1 => k_mem); (case yi2 => k_mem); (case yhvs => first | assumption | decide | omega); (case yhd => show _ + 40 < 1000; (try dsimp only [ktrTop]); omega); (case yhu => show _ + 500 < 9900; (try dsimp only [ktrTop]); omega); k_whole; intro h' tk' k' F' N'; (try dsimp only at N'); (try k_sweep))))
local macro_rules | `(tactic| walk_at "call ref") => `(tactic| (k_here; (with_reducible show wpAny _ _ (call (Value.ref 143) _) _ _ _); refine StopF.go ?_))
theorem goal_code (w : World) (dp un : Nat) (gd : Option (List Code)) (a : Addr) (ccd : Value) (c1 c2 : Addr) (A₀ : Around) (base h₀ : Heap) (L : Addr) (m : Str → Option Value) (s : Shared) (p : Program) (loose : List Str) (mean : ExcName → Option Value) (mg mb : Str → Option Value)
    (Rr : Result → Shared → Prop)
    (B : Below A₀ base [] h₀) (F : Fr h₀ L s.heap m) (X : (wPart w.params).In h₀) (T : Top p loose mean mg mb h₀)
    (hcd : CodeHd base 116 112) (hd : dp + 80 < 1000) (hu : un + 900 < 9900)
  {E : Value → Shared → Prop} {Q : Flow → Shared → Prop} (hE : PassesOwn (model P1 w) (ktrTop dp un gd "law" lawS L a ccd [(Str.ofString "numbers", c2), (Str.ofString "lexer", c1)] []) (envX "law" lawS L a ccd [(Str.ofString "numbers", c2), (Str.ofString "lexer", c1)]) E) (XB : (wPart w.params).In base) (TB : Top p loose mean mg mb base) (R : List (Addr × Obj)) {lx dx st pb : Addr} {o1 : Obj} {kp : Nat} {n : Int} {tn t1 t2 t3 t4 t5 : Tok}
  (N : News h₀ L s.heap ((pb, W.listOf ([] : List Value).toArray kp) :: R)) (i1 : (lx, instObj 103 dx) ∈ R) (i2 : (dx, lexD w n tn st pb t1 t2 t3 t4 t5) ∈ R) (hoff : OwnOff R [pb]) (hc1 : (c1, o1) ∈ R) (hc1d : o1.data = .cell (some (.ref lx)))
  {Dw sc ch : Addr} {ws sv vsC : List Value} {kw kc : Nat} {nsc : List Int} {es : List Nat} (hwd : (Dw, W.listOf ws.toArray kw) ∈ R) (hT : TxtsAre ws (es.map repE)) (hes : es.length ≤ 6)
  (hm1 : m "script" = some (.ref sc)) (hm2 : m "chain" = some (.ref ch)) (hm3 : m "words" = some (.ref Dw)) (hsl : h₀.IsList sc sv.toArray) (hsi : IntsAre sv nsc) (h63 : nsc.length ≤ 63)
  (hch : (ch, W.listOf vsC.toArray kc) ∈ R) (hC : ChainIn R vsC (es.map chE)) {y : Int} {ty : Tok} (hm4 : m "goal" = some (.int y ty)) (hy1 : -(10 ^ 24) < y) (hy2 : y < 10 ^ 24)
  (ret : ∀ h' tk' m' kp', Fr h₀ L h' m' → (∀ z, z ≠ Str.ofString "word" → z ≠ Str.ofString "least" → z ≠ Str.ofString "n" → m' z = m z) → News h₀ L h' ((pb, W.listOf ([] : List Value).toArray kp') :: R) → Q .next { s with heap := h', toks := tk' }) :
    wpAny (model P1 w) (ktrTop dp un gd "law" lawS L a ccd [(Str.ofString "numbers", c2), (Str.ofString "lexer", c1)] []) (execs lawG (envX "law" lawS L a ccd [(Str.ofString "numbers", c2), (Str.ofString "lexer", c1)])) Q E s := by
  dsimp only [lawG, lawG0, lawS, lawS0]
  have hwl : ws.length = es.length := by have z := txtsLen hT; rw [List.length_map] at z; exact z
  k_steps
  unfold StopF
  refine pushes_code w dp un gd a ccd c1 c2 A₀ base h₀ L _ _ p loose mean mg mb Rr B F X T hcd (by omega) (by omega) hE R N i1 i2 hoff hc1 hc1d hwd hT (by omega) hm3 ?_
  intro h2 tk2 m2 kp2 F2 e2 N2
  dsimp only
  have f1 := (e2 "script" (by decide)).trans hm1
  have f2 := (e2 "chain" (by decide)).trans hm2
  have f4 := (e2 "goal" (by decide)).trans hm4
  have em := setBack1 f4
  rw [em] at F2
  have hnl := numS_len hy1 hy2
  have hnl2 : (Str.ofString (toString y)).length ≤ 25 := hnl.1
  have hwl2 : ws.length ≤ 100 := by omega
  k_steps
  unfold StopF
  rename_i h3 tk3 k3 F3 N3
  have hB : ∀ tg, BackOK w (ws ++ [Value.str (goalW y) tg]) (backV es y) es.length := fun tg => backAll hy1 hy2 es ws hT (by omega)
  refine wpAny_call (backok_use (hB _) B F3 X T rfl hcd (by omega) (by omega) XB TB ktsDicts_nil N3 i1 i2 hoff ?_)
  intro h₀' h4 tk4 t4 k4 kT kB kX kP kD F4 N4
  have F5 := frTurn kT F4
  have N5 := newsTurn kT N4
  clear F3 N3 F4 N4 kB kX kP kD
  dsimp only
  k_steps
  unfold StopF
  rename Fr h₀ _ _ _ => kF; rename News h₀ _ _ _ => kN
  refine check_code w dp un gd a ccd c1 c2 A₀ base h₀ L _ _ p loose mean mg mb Rr B kF X T hcd (by omega) (by omega) hE ((pb, W.listOf #[] k4) :: R) kN (by exact f1) (by exact f2) hsl hsi h63 (.tail _ hch) (chainMono (fun p hp => .tail _ hp) hC) rfl rfl (fun n => back_led es y n) ?_
  intro h6 tk6 m6 F6 e6 N6
  dsimp only
  refine wpAny_execs_nil ?_
  refine ret _ _ _ _ F6 (fun z z1 z2 z3 => ?_) N6
  rw [e6 z z3, if_neg z2, ← e2 z z1]
  exact (congrFun em z).symm
end Mine

namespace Mine
set_option maxHeartbeats 2000000
noncomputable def StopM (P : Prop) : Prop := P
theorem StopM.go {P : Prop} (h : StopM P) : P := h
local macro_rules | `(tactic| walk_at "eval ListComp") => `(tactic| refine StopM.go ?_)
local macro_rules | `(tactic| walk_at "pyIter ref") => `(tactic| refine StopM.go ?_)
noncomputable def StopT (P : Prop) : Prop := P
theorem StopT.go {P : Prop} (h : StopT P) : P := h
local macro_rules | `(tactic| walk_at "call ref") => `(tactic| (k_here; (with_reducible show wpAny _ _ (call (Value.ref 93) _) _ _ _); refine StopT.go ?_))
local macro_rules | `(tactic| walk_at "compareOp Eq ref ref") => `(tactic| refine StopT.go ?_)
theorem newsEnd {h₀ h : Heap} {L : Addr} {x1 x2 x3 x4 : Addr × Obj} {R : List (Addr × Obj)} (N : News h₀ L h (x1 :: x2 :: x3 :: x4 :: R)) : News h₀ L h (x4 :: x1 :: R) := fun p hp => N p (by
  simp only [List.mem_cons] at hp ⊢
  rcases hp with h | h | h <;> simp only [h, true_or, or_true])
theorem end_code (w : World) (dp un : Nat) (gd : Option (List Code)) (a : Addr) (ccd : Value) (c1 c2 : Addr) (A₀ : Around) (base h₀ : Heap) (L : Addr) (m : Str → Option Value) (s : Shared) (p : Program) (loose : List Str) (mean : ExcName → Option Value) (mg mb : Str → Option Value)
    (Rr : Result → Shared → Prop)
    (B : Below A₀ base [] h₀) (F : Fr h₀ L s.heap m) (X : (wPart w.params).In h₀) (T : Top p loose mean mg mb h₀)
    (hcd : CodeHd base 116 112) (hd : dp + 80 < 1000) (hu : un + 900 < 9900)
  {E : Value → Shared → Prop} {Q : Flow → Shared → Prop} (hE : PassesOwn (model P1 w) (ktrTop dp un gd "law" lawS L a ccd [(Str.ofString "numbers", c2), (Str.ofString "lexer", c1)] []) (envX "law" lawS L a ccd [(Str.ofString "numbers", c2), (Str.ofString "lexer", c1)]) E) (XB : (wPart w.params).In base) (TB : Top p loose mean mg mb base) (R : List (Addr × Obj)) {lx dx st pb at_ : Addr} {o1 : Obj} {text : Str} {Tx : List Nat} {pos kp kk : Nat} {n : Int} {tp tn t1 t2 t3 t4 t5 : Tok}
  (N : News h₀ L s.heap ((pb, W.listOf ([] : List Value).toArray kp) :: (at_, W.listOf #[.int (pos : Nat) tp] kk) :: (dx, lexD w n tn st pb t1 t2 t3 t4 t5) :: R)) (LI : LexIn w R lx dx st at_ text) (hoff : OwnOff ((at_, W.listOf #[.int (pos : Nat) tp] kk) :: (dx, lexD w n tn st pb t1 t2 t3 t4 t5) :: R) [pb]) (ho : OwnOff R [at_, dx]) (hne : @Ne Nat at_ dx)
  (hlen : text.length ≤ 1000) (hx : text.cps.toList = Tx) (hdr : Tx.drop pos = []) (hn : 0 ≤ n ∧ n ≤ (pos : Int) + 1) (hpos : pos ≤ Tx.length + 15) (hc1 : (c1, o1) ∈ R) (hc1d : o1.data = .cell (some (.ref lx)))
  {Dw sc ch : Addr} {ws sv vsC : List Value} {kw kc : Nat} {nsc : List Int} {es : List Nat} (hwd : (Dw, W.listOf ws.toArray kw) ∈ R) (hT : TxtsAre ws (es.map repE)) (hes : es.length ≤ 6)
  (hm1 : m "script" = some (.ref sc)) (hm2 : m "chain" = some (.ref ch)) (hm3 : m "words" = some (.ref Dw)) (hsl : h₀.IsList sc sv.toArray) (hsi : IntsAre sv nsc) (h63 : nsc.length ≤ 63)
  (hch : (ch, W.listOf vsC.toArray kc) ∈ R) (hC : ChainIn R vsC (es.map chE))
  (ret : ∀ h' tk' m', Fr h₀ L h' m' → News h₀ L h' R → Q (.ret (.bool true)) { s with heap := h', toks := tk' }) :
    wpAny (model P1 w) (ktrTop dp un gd "law" lawS L a ccd [(Str.ofString "numbers", c2), (Str.ofString "lexer", c1)] []) (execs lawEnd (envX "law" lawS L a ccd [(Str.ofString "numbers", c2), (Str.ofString "lexer", c1)])) Q E s := by
  have em := setBack3 hm1 hm2 hm3
  have F0 := F
  rw [em] at F
  dsimp only [lawEnd, lawEnd0, lawS, lawS0]
  have i1 : (lx, instObj 103 dx) ∈ R := by obtain ⟨_, _, _, _, _, _, _, _, _, _, _, _, _, _, _, _, _, i1, _⟩ := LI; exact i1
  clear F0
  walk1
  refine For_turns (hE := hE) F ?_
  k_steps
  unfold StopM
  rename Fr h₀ _ _ _ => kF; rename News h₀ _ _ _ => kN
  refine caps2_code w dp un gd a ccd c1 c2 A₀ base h₀ L _ _ p loose mean mg mb Rr B kF X T hcd (by omega) (by omega) _ kN rfl hsl hsi h63 ?_
  intro h2 tk2 D2 us2 ys2 F2 N2 hi2 hb2 hl2
  k_steps
  unfold StopM
  rename_i D3 ws3 h3 F3 N3 hi3 l3
  rw [← em] at F3
  have hb3 : ∀ y ∈ [17, -8] ++ ys2, -(10 ^ 24) < y ∧ y < 10 ^ 24 := by
    intro y hy
    rcases List.mem_append.mp hy with hy | hy
    · simp only [List.mem_cons, List.not_mem_nil, or_false] at hy
      rcases hy with rfl | rfl <;> decide
    · exact hb2 y hy
  have hD3 : @LT.lt Nat _ pb D3 := l3.2.2.1
  have N4 : News h₀ L h3 ((pb, W.listOf ([] : List Value).toArray kp) :: (D3, W.listOf ws3.toArray 0) :: (at_, W.listOf #[.int (pos : Nat) tp] kk) :: (dx, lexD w n tn st pb t1 t2 t3 t4 t5) :: R) := newsEnd N3
  have hoff4 : OwnOff ((D3, W.listOf ws3.toArray 0) :: (at_, W.listOf #[.int (pos : Nat) tp] kk) :: (dx, lexD w n tn st pb t1 t2 t3 t4 t5) :: R) [pb] := offCons hoff (Nat.ne_of_gt hD3)
  have hDa : @LT.lt Nat _ at_ D3 := l3.2.2.2.1
  have hDd : @LT.lt Nat _ dx D3 := l3.2.2.2.2.1
  clear N3 l3
  refine iter_listTurns (n := 0) (lo := W.listOf ws3.toArray 0) rfl F3 N4 (.tail _ (.head _)) rfl rfl ?_
  intro I hI
  have hpI : @LT.lt Nat _ pb I := hI _ (.head _)
  refine itemsRest_of2 (fun vs' m1 news => ∃ (ns' : List Int) (kp' : Nat), IntsAre vs' ns' ∧ (∀ y ∈ ns', -(10 ^ 24) < y ∧ y < 10 ^ 24) ∧ news = (pb, W.listOf ([] : List Value).toArray kp') :: (D3, W.listOf ws3.toArray 0) :: (at_, W.listOf #[.int (pos : Nat) tp] kk) :: (dx, lexD w n tn st pb t1 t2 t3 t4 t5) :: R ∧ (∀ z, z ≠ Str.ofString "word" → z ≠ Str.ofString "least" → z ≠ Str.ofString "n" → z ≠ Str.ofString "goal" → m1 z = m z)) ?z ?s ws3 m _ ⟨_, kp, hi3, hb3, rfl, fun _ _ _ _ _ => rfl⟩
  case z =>
    rintro m1 news ⟨ns', kp', _, _, rfl, e2⟩ h tk F9 N9
    change Fr h₀ L h m1 at F9
    change News h₀ L h _ at N9
    dsimp only
    k_steps
    unfold StopT
    rename_i l5 h5 F5 N5 l1
    have N5' : News h₀ L h5 ((l5, W.listOf #[] 0) :: (pb, W.listOf ([] : List Value).toArray kp') :: (D3, W.listOf ws3.toArray 0) :: (at_, W.listOf #[.int (pos : Nat) tp] kk) :: (dx, lexD w n tn st pb t1 t2 t3 t4 t5) :: R) := N5
    obtain ⟨q1, q2, q3, q4, q5⟩ := l1
    have hl1 : h5.IsList pb ([] : List Value).toArray := ⟨_, (N5' _ (.tail _ (.head _))).1, rfl, _, rfl⟩
    have hl2 : h5.IsList l5 ([] : List Value).toArray := ⟨_, (N5' _ (.head _)).1, rfl, _, rfl⟩
    refine eq_intsK (ns := []) (ms := []) hl1 .nil hl2 .nil (Nat.lt_of_lt_of_le (show un + 64 < 9900 by omega) (by decide)) ?_
    rw [show decide (([] : List Int) = []) = true from rfl]
    have e0 : (strOf [] == Str.ofString "") = true := by decide +kernel
    clear N5
    clear XB TB
    k_steps
    unfold StopT
    dsimp only [List.append_nil]
    have hTl : Tx.length ≤ 1000 := by rw [← hx]; simpa [Str.length] using hlen
    have hpa : @Ne Nat at_ pb := hoff _ (.head _) pb (.head _)
    have hpd : @Ne Nat dx pb := hoff _ (.tail _ (.head _)) pb (.head _)
    refine wpAny_call (gettok_code w dp un gd _ _ a ccd _ [] A₀ base h₀ L m1 _ p loose mean mg mb _ B F5 X T rfl hcd (by omega) (by omega) ((l5, W.listOf #[] 0) :: (pb, W.listOf ([] : List Value).toArray kp') :: (D3, W.listOf ws3.toArray 0) :: R) (newsOut N5') (LI.mono fun p hp => .tail _ (.tail _ (.tail _ hp))) (.tail _ (.head _)) ?_ ?_ hne (by omega) hx hn (by omega) .eof hdr ?_)
    · intro p hp
      rcases List.mem_cons.mp hp with rfl | hp
      · (show @Ne Nat _ _); omega
      rcases List.mem_cons.mp hp with rfl | hp
      · exact Ne.symm hpa
      rcases List.mem_cons.mp hp with rfl | hp
      · (show @Ne Nat _ _); omega
      · exact ho p hp _ (.head _)
    · intro p hp
      rcases List.mem_cons.mp hp with rfl | hp
      · (show @Ne Nat _ _); omega
      rcases List.mem_cons.mp hp with rfl | hp
      · exact Ne.symm hpd
      rcases List.mem_cons.mp hp with rfl | hp
      · (show @Ne Nat _ _); omega
      · exact ho p hp _ (.tail _ (.head _))
    intro h6 tk6 u6 k6 u7 n6 tn6 pos6 _ _ _ _ F6 N6
    k_steps
    rw [e0]
    exact ret _ _ _ F6 (fun p hp => N6 p (.tail _ (.tail _ (.tail _ (.tail _ (.tail _ hp))))))
  case s =>
    rintro v r m1 news ⟨ns', kp', hi, hb, rfl, e2⟩ IH
    cases hi
    rename_i y ty ns2 hi
    have f1 := (e2 "script" (by decide) (by decide) (by decide) (by decide)).trans hm1
    have f2 := (e2 "chain" (by decide) (by decide) (by decide) (by decide)).trans hm2
    have f3 := (e2 "words" (by decide) (by decide) (by decide) (by decide)).trans hm3
    have hyb := hb y (.head _)
    refine ItemsRest.val (fun h tk F9 => AllObj.cons (fun oI hoI => AllObj.nil (fun N9 => ?_)))
    simp only [List.cons_append, List.nil_append] at N9
    dsimp only [lawS, lawS0]
    walk1
    walk1
    rename Fr h₀ _ _ _ => kF; rename News h₀ _ _ _ => kN
    refine goal_code w dp un gd a ccd c1 c2 A₀ base h₀ L _ _ p loose mean mg mb Rr B kF X T hcd (by omega) (by omega) hE XB TB ((I, oI) :: (D3, W.listOf ws3.toArray 0) :: (at_, W.listOf #[.int (pos : Nat) tp] kk) :: (dx, lexD w n tn st pb t1 t2 t3 t4 t5) :: R) (newsSw kN) (.tail _ (.tail _ (.tail _ (.tail _ i1)))) (.tail _ (.tail _ (.tail _ (.head _)))) (offCons hoff4 (Nat.ne_of_gt hpI)) (.tail _ (.tail _ (.tail _ (.tail _ hc1)))) hc1d (.tail _ (.tail _ (.tail _ (.tail _ hwd)))) hT hes (by exact f1) (by exact f2) (by exact f3) hsl hsi h63 (.tail _ (.tail _ (.tail _ (.tail _ hch)))) (chainMono (fun p hp => .tail _ (.tail _ (.tail _ (.tail _ hp)))) hC) rfl hyb.1 hyb.2 ?_
    intro h5 tk5 m5 kp5 F5 e5 N5
    dsimp only [UnrPostW]
    refine ⟨_, _, _, (pb, W.listOf ([] : List Value).toArray kp5) :: (D3, W.listOf ws3.toArray 0) :: (at_, W.listOf #[.int (pos : Nat) tp] kk) :: (dx, lexD w n tn st pb t1 t2 t3 t4 t5) :: R, rfl, F5, newsSw N5, ?_, ⟨.tail _ (.head _), trivial⟩, IH _ _ ⟨ns2, kp5, hi, fun y hy => hb y (.tail _ hy), rfl, fun z z1 z2 z3 z4 => ?_⟩⟩
    · intro p hp q hq
      rw [List.mem_singleton.mp hq]
      rcases List.mem_cons.mp hp with rfl | hp
      · exact Nat.ne_of_lt hpI
      · exact Nat.ne_of_lt (hI p (.tail _ hp))
    · rw [e5 z z1 z2 z3, if_neg z4]
      exact e2 z z1 z2 z3 z4
end Mine

namespace Mine
set_option maxHeartbeats 20000000
local macro_rules | `(tactic| k_all) => `(tactic| first | exact OwnOff.ne (by assumption) (by k_memK) | (refine allLt_ne (d := ?d) ?h ?b; (case h => assumption); (case b => (show @LE.le Nat _ _ _); omega)))
noncomputable def Stop9 (P : Prop) : Prop := P
theorem Stop9.go {P : Prop} (h : Stop9 P) : P := h
local macro_rules | `(tactic| walk_at "call ref") => `(tactic| (k_here; (with_reducible show wpAny _ _ (call (Value.ref 117) _) _ _ _); refine Stop9.go ?_))
noncomputable def Stop10 (P : Prop) : Prop := P
theorem Stop10.go {P : Prop} (h : Stop10 P) : P := h
local macro_rules | `(tactic| walk_at "exec Assign") => `(tactic| ((with_reducible show wpAny _ _ (exec (Stmt.Assign _ (PySem.Expr.ListComp _ _ _ _) _) _) _ _ _); refine Stop10.go ?_))
local macro_rules | `(tactic| walk_at "exec Assign Name") => `(tactic| ((with_reducible show wpAny _ _ (exec (Stmt.Assign _ (PySem.Expr.ListComp _ _ _ _) _) _) _ _ _); refine Stop10.go ?_))
local macro_rules | `(tactic| walk_at "exec Assign cons ListComp") => `(tactic| ((with_reducible show wpAny _ _ (exec (Stmt.Assign _ (PySem.Expr.ListComp _ _ _ _) _) _) _ _ _); refine Stop10.go ?_))
noncomputable def Stop11 (P : Prop) : Prop := P
theorem Stop11.go {P : Prop} (h : Stop11 P) : P := h
local macro_rules | `(tactic| walk_at "compareOp NotEq ref ref") => `(tactic| refine Stop11.go ?_)
local macro_rules | `(tactic| walk_at "ite") => `(tactic| first | refine ite_neg (by rw [Bool.not_eq_true]; with_reducible assumption) ?_ | refine ite_pos (by with_reducible assumption) ?_)
noncomputable def Stop7x (P : Prop) : Prop := P
theorem Stop7x.go {P : Prop} (h : Stop7x P) : P := h
local macro_rules | `(tactic| walk_at "call ref") => `(tactic| (k_here; (with_reducible show wpAny _ _ (call (Value.ref 93) _) _ _ _); refine Stop7x.go ?_))
noncomputable def Stop12 (P : Prop) : Prop := P
theorem Stop12.go {P : Prop} (h : Stop12 P) : P := h
local macro_rules | `(tactic| walk_at "eval ListComp") => `(tactic| refine Stop12.go ?_)
local macro_rules | `(tactic| walk_at "exec For") => `(tactic| refine Stop12.go ?_)
local macro_rules | `(tactic| walk_at "exec For Name") => `(tactic| refine Stop12.go ?_)
theorem newsL0 {h₀ h : Heap} {L : Addr} {x1 x2 x3 x0 x4 x5 x6 x7 : Addr × Obj} {X R : List (Addr × Obj)} (N : News h₀ L h (x1 :: x2 :: x3 :: (X ++ (x0 :: x4 :: x5 :: x6 :: x7 :: R)))) : News h₀ L h (x1 :: x2 :: x3 :: (X ++ (x4 :: x5 :: x6 :: x7 :: (x0 :: R)))) := fun p hp => N p (by
  simp only [List.mem_cons, List.mem_append] at hp ⊢
  rcases hp with h | h | h | h | h | h | h | h | h | h <;> simp only [h, true_or, or_true])
theorem newsR3 {h₀ h : Heap} {L : Addr} {x1 x2 x3 x4 x5 x6 x7 : Addr × Obj} {R : List (Addr × Obj)} (N : News h₀ L h (x1 :: x2 :: x3 :: x4 :: x5 :: x6 :: x7 :: R)) : News h₀ L h (x7 :: x1 :: x2 :: x3 :: x4 :: x5 :: x6 :: R) := fun p hp => N p (by
  simp only [List.mem_cons] at hp ⊢
  rcases hp with h | h | h | h | h | h | h | h <;> simp only [h, true_or, or_true])
theorem newsT {h₀ h : Heap} {L : Addr} {d : Addr × Obj} {TP R : List (Addr × Obj)} (N : News h₀ L h (d :: (TP ++ R))) : News h₀ L h R := fun p hp => N p (.tail _ (List.mem_append_right _ hp))
theorem newsR1 {h₀ h : Heap} {L : Addr} {x1 x2 x3 x4 x5 x6 x7 : Addr × Obj} {X R : List (Addr × Obj)} (N : News h₀ L h (x1 :: x2 :: x3 :: (X ++ (x4 :: x5 :: x6 :: x7 :: R)))) : News h₀ L h (x4 :: x1 :: x2 :: x3 :: x5 :: x6 :: x7 :: (X ++ R)) := fun p hp => N p (by
  simp only [List.mem_cons, List.mem_append] at hp ⊢
  rcases hp with h | h | h | h | h | h | h | h | h <;> simp only [h, true_or, or_true])
theorem newsR2 {h₀ h : Heap} {L : Addr} {x1 x2 x3 : Addr × Obj} {R : List (Addr × Obj)} (N : News h₀ L h (x1 :: x2 :: x3 :: R)) : News h₀ L h (x2 :: x3 :: x1 :: R) := fun p hp => N p (by
  simp only [List.mem_cons] at hp ⊢
  rcases hp with h | h | h | h <;> simp only [h, true_or, or_true])
theorem ltAll {d : Addr} : ∀ {R : List (Addr × Obj)}, AllLt d R → ∀ p ∈ R, @LT.lt Nat _ p.1 d
  | [], _, _, h => nomatch h
  | q :: r, h, p, hp => by
    rcases List.mem_cons.mp hp with rfl | hp
    · exact h.1
    · exact ltAll h.2 p hp
theorem rest_code (w : World) (dp un : Nat) (gd : Option (List Code)) (a : Addr) (ccd : Value) (c1 c2 : Addr) (A₀ : Around) (base h₀ : Heap) (L : Addr) (m : Str → Option Value) (s : Shared) (p : Program) (loose : List Str) (mean : ExcName → Option Value) (mg mb : Str → Option Value)
    (Rr : Result → Shared → Prop)
    (B : Below A₀ base [] h₀) (F : Fr h₀ L s.heap m) (X : (wPart w.params).In h₀) (T : Top p loose mean mg mb h₀)
    (hcd : CodeHd base 116 112) (hd : dp + 80 < 1000) (hu : un + 900 < 9900)
  {E : Value → Shared → Prop} {Q : Flow → Shared → Prop} (hE : PassesOwn (model P1 w) (ktrTop dp un gd "law" lawS L a ccd [(Str.ofString "numbers", c2), (Str.ofString "lexer", c1)] []) (envX "law" lawS L a ccd [(Str.ofString "numbers", c2), (Str.ofString "lexer", c1)]) E) (hXT : (wPart w.params).In base ∧ Top p loose mean mg mb base) (R : List (Addr × Obj)) {sc ch rp : Addr} {o1 o2 : Obj} {ov1 ov2 : Option Value} {vsC vsR sv : List Value} {kc kr : Nat} {tt : Tok} {es : List Nat} {nsc : List Int}
  (N : News h₀ L s.heap ((112, tabObj #[]) :: (c1, o1) :: (c2, o2) :: (ch, W.listOf vsC.toArray kc) :: (rp, W.listOf vsR.toArray kr) :: R))
  (hlt : @LT.lt Nat _ 112 c1 ∧ @LT.lt Nat _ c1 c2 ∧ @LT.lt Nat _ c2 ch ∧ @LT.lt Nat _ ch rp) (hR : ∀ p ∈ R, @LT.lt Nat _ rp p.1) (ho1 : o1.data = .cell ov1) (ho2 : o2.data = .cell ov2)
  (hm1 : m "script" = some (.ref sc)) (hm2 : m "chain" = some (.ref ch)) (hm3 : m "replies" = some (.ref rp)) (hm4 : m "text" = some (.str (strOf (es.flatMap wordE)) tt))
  (hC : ChainIn R vsC (es.map chE)) (hT : TxtsAre vsR (es.map repE)) (hes : 3 ≤ es.length ∧ es.length ≤ 6) (hsl : h₀.IsList sc sv.toArray) (hsi : IntsAre sv nsc) (h63 : nsc.length ≤ 63)
  (ret : ∀ h' tk' m' ps, Fr h₀ L h' m' → News h₀ L h' [(112, tabObj ps)] → Q (.ret (.bool true)) { s with heap := h', toks := tk' }) :
    wpAny (model P1 w) (ktrTop dp un gd "law" lawS L a ccd [(Str.ofString "numbers", c2), (Str.ofString "lexer", c1)] []) (execs lawRest (envX "law" lawS L a ccd [(Str.ofString "numbers", c2), (Str.ofString "lexer", c1)])) Q E s := by
  rw [setBack4 hm1 hm2 hm3 hm4] at F
  dsimp only [lawRest, lawRest0, lawS, lawS0]
  k_steps
  unfold Stop9
  obtain ⟨lt1, lt2, lt3, lt4⟩ := hlt
  have htx : (strOf (es.flatMap wordE)).length ≤ 1000 := by rw [strOf_len]; have z := wordsE_len es; omega
  rename Fr h₀ _ _ _ => kF; rename News h₀ _ _ _ => kN
  refine wpAny_call (lexer_code2 w dp un gd _ _ a ccd _ [] A₀ base h₀ L _ _ p loose mean mg mb _ B kF X T rfl hcd (by omega) (by omega) ((c1, o1) :: (c2, o2) :: (ch, W.listOf vsC.toArray kc) :: (rp, W.listOf vsR.toArray kr) :: R) kN ?_ ?_)
  · intro p hp b hb
    rw [List.mem_singleton.mp hb]
    simp only [List.mem_cons] at hp
    rcases hp with rfl | rfl | rfl | rfl | hp <;> ((show @Ne Nat _ _); first | omega | (have := hR p hp; omega))
  intro ps h' tk' X0 D0 lx dx st pb at_ u k n tn t1 t2 t3 t4 t5 kp lD hX0 hD0 LI hoX ne1 ne2 ne3 hn1 F1 N1
  have hRlt := ltAll lD
  have d1 : @LT.lt Nat _ c1 D0 := hRlt _ (.head _)
  have d2 : @LT.lt Nat _ c2 D0 := hRlt _ (.tail _ (.head _))
  have d3 : @LT.lt Nat _ ch D0 := hRlt _ (.tail _ (.tail _ (.head _)))
  have d4 : @LT.lt Nat _ rp D0 := hRlt _ (.tail _ (.tail _ (.tail _ (.head _))))
  have hRD0 : ∀ p ∈ R, @LT.lt Nat _ p.1 D0 := fun p hp => hRlt p (.tail _ (.tail _ (.tail _ (.tail _ hp))))
  obtain ⟨R2, hR2⟩ : ∃ R2, R2 = (112, tabObj ps) :: R := ⟨_, rfl⟩
  have h112 : (112, tabObj ps) ∈ R2 := by rw [hR2]; exact .head _
  have hRD : ∀ p ∈ R2, @LT.lt Nat _ p.1 D0 := by
    intro p hp
    rw [hR2] at hp
    rcases List.mem_cons.mp hp with rfl | hp
    · exact Nat.lt_trans lt1 d1
    · exact hRD0 p hp
  have hR9 : ∀ p ∈ R2, @Eq Nat p.1 112 ∨ @LT.lt Nat _ rp p.1 := by
    intro p hp
    rw [hR2] at hp
    rcases List.mem_cons.mp hp with rfl | hp
    · exact .inl rfl
    · exact .inr (hR p hp)
  have hC2 : ChainIn R2 vsC (es.map chE) := chainMono (fun p hp => by rw [hR2]; exact .tail _ hp) hC
  have N1 := newsL0 N1
  rw [← hR2] at N1
  obtain ⟨da, db, dc⟩ := hD0
  have hoA : ∀ b, @LT.lt Nat _ 112 b → @LE.le Nat _ b rp → ∀ p ∈ X0 ++ R2, p.1 ≠ b := by
    intro b hb0 hb p hp
    rcases List.mem_append.mp hp with hp | hp
    · have := hX0 p hp; (show @Ne Nat _ _); omega
    · rcases hR9 p hp with z | z <;> ((show @Ne Nat _ _); omega)
  have hoB : OwnOff (X0 ++ R2) [at_, dx, pb] := by
    intro p hp b hb
    rcases List.mem_append.mp hp with hp | hp
    · exact hoX p hp b hb
    · have z := hRD p hp
      simp only [List.mem_cons, List.not_mem_nil, or_false] at hb
      rcases hb with rfl | rfl | rfl <;> ((show @Ne Nat _ _); omega)
  dsimp only
  refine storeX_C F1 (newsR1 N1) rfl (.head ?_) ho1 ?_
  · intro p hp
    simp only [List.mem_cons] at hp
    rcases hp with rfl | rfl | rfl | rfl | rfl | rfl | hp
    · (show @Ne Nat _ _); omega
    · (show @Ne Nat _ _); omega
    · (show @Ne Nat _ _); omega
    · (show @Ne Nat _ _); omega
    · (show @Ne Nat _ _); omega
    · (show @Ne Nat _ _); omega
    · exact hoA c1 (show @LT.lt Nat _ 112 c1 by omega) (show @LE.le Nat _ c1 rp by omega) p hp
  intro h2 o1' F2 N2 ho1'
  k_steps
  unfold Stop10
  rename Fr h₀ _ _ _ => kF
  have hTl : (es.flatMap wordE).length ≤ 1000 := by rw [← strOf_len]; exact htx
  have i1 : (lx, instObj 103 dx) ∈ X0 := by obtain ⟨_, _, _, _, _, _, _, _, _, _, _, _, _, _, _, _, _, i1, _⟩ := LI; exact i1
  have hoff2 : OwnOff ((c1, o1') :: (pb, W.listOf #[] kp) :: (c2, o2) :: (ch, W.listOf vsC.toArray kc) :: (rp, W.listOf vsR.toArray kr) :: (X0 ++ R2)) [at_, dx] := by
    intro p hp b hb
    have hb2 : b = at_ ∨ b = dx := by simpa only [List.mem_cons, List.not_mem_nil, or_false] using hb
    simp only [List.mem_cons] at hp
    rcases hp with rfl | rfl | rfl | rfl | rfl | hp
    · rcases hb2 with rfl | rfl <;> ((show @Ne Nat _ _); omega)
    · rcases hb2 with rfl | rfl <;> ((show @Ne Nat _ _); omega)
    · rcases hb2 with rfl | rfl <;> ((show @Ne Nat _ _); omega)
    · rcases hb2 with rfl | rfl <;> ((show @Ne Nat _ _); omega)
    · rcases hb2 with rfl | rfl <;> ((show @Ne Nat _ _); omega)
    · exact hoB p hp b (by rcases hb2 with rfl | rfl; exact .head _; exact .tail _ (.head _))
  refine words_code w dp un gd a ccd c1 c2 [] A₀ base h₀ L _ _ p loose mean mg mb Rr B kF X T hcd (by omega) (by omega) ((c1, o1') :: (pb, W.listOf #[] kp) :: (c2, o2) :: (ch, W.listOf vsC.toArray kc) :: (rp, W.listOf vsR.toArray kr) :: (X0 ++ R2)) (newsR2 N2) (LI.mono fun p hp => .tail _ (.tail _ (.tail _ (.tail _ (.tail _ (List.mem_append_left _ hp)))))) (.tail _ (.head _)) hoff2 ne1 htx rfl hn1 (.head _) ho1' (.tail _ (.tail _ (.tail _ (.tail _ (.head _))))) rfl hT hes.2 (readsE es).1 ?_
  intro h3 tk3 Dw ws pos tp3 kk3 n3 tn3 rem F3 N3 hTw hdr hTok hn3 hpos3 hof3
  dsimp only
  have e0 : (strOf [] != Str.ofString "") = false := by decide +kernel
  have hnDw : (Dw : Nat) = c2 → False := fun e => hof3.2.2.2.2.1 e.symm
  k_steps
  unfold Stop11
  refine neTxts N3 (.head _) (.tail _ (.tail _ (.tail _ (.tail _ (.tail _ (.tail _ (.tail _ (.head _)))))))) hTw hT (fun y hy => ?_) (Nat.lt_of_lt_of_le (show un + 64 < 9900 by omega) (by decide)) ?_
  · obtain ⟨e, _, rfl⟩ := List.mem_map.mp hy
    exact repE_ok e
  k_steps
  unfold Stop7x
  dsimp only [List.append_nil]
  rename Fr h₀ _ _ _ => kF
  have hpos9 : pos ≤ (es.flatMap wordE).length + 10 := hpos3
  refine wpAny_call (gettok_code w dp un gd _ _ a ccd _ [] A₀ base h₀ L _ _ p loose mean mg mb _ B kF X T rfl hcd (by omega) (by omega) ((Dw, LCg.lst ws) :: (c1, o1') :: (pb, W.listOf #[] kp) :: (c2, o2) :: (ch, W.listOf vsC.toArray kc) :: (rp, W.listOf vsR.toArray kr) :: (X0 ++ R2)) (newsR2 N3)
    (LI.mono fun p hp => .tail _ (.tail _ (.tail _ (.tail _ (.tail _ (.tail _ (List.mem_append_left _ hp))))))) (.tail _ (.tail _ (.head _))) ?_ ?_ ne1 (by omega) rfl hn3 (by show pos ≤ (es.flatMap wordE).length + 20; omega) hTok hdr ?_)
  · intro p hp
    rcases List.mem_cons.mp hp with rfl | hp
    · exact Ne.symm hof3.1
    · exact hoff2 p hp _ (.head _)
  · intro p hp
    rcases List.mem_cons.mp hp with rfl | hp
    · exact Ne.symm hof3.2.1
    · exact hoff2 p hp _ (.tail _ (.head _))
  intro h4 tk4 u4 k4 u5 n4 tn4 pos4 hdr4 hpos4 hn40 hn41 F4 N4
  k_steps
  rename_i h5 o5 F5 N5 lo5 hd5 hf5 ap5 l5
  have l5' := l5
  obtain ⟨la1, la2, la3, la4, la5, la6, la7, la8, la9⟩ := l5'
  generalize hdn : h4.objs.size = dn at *
  refine storeX_C (g := _) F5 (newsR3 N5) rfl (.head ?_) ho2 ?_
  · intro p hp
    simp only [List.mem_cons] at hp
    rcases hp with rfl | rfl | rfl | rfl | rfl | rfl | rfl | rfl | hp
    · (show @Ne Nat _ _); omega
    · (show @Ne Nat _ _); omega
    · (show @Ne Nat _ _); omega
    · exact fun e => (hnDw e).elim
    · (show @Ne Nat _ _); omega
    · (show @Ne Nat _ _); omega
    · (show @Ne Nat _ _); omega
    · (show @Ne Nat _ _); omega
    · exact hoA c2 (show @LT.lt Nat _ 112 c2 by omega) (show @LE.le Nat _ c2 rp by omega) p hp
  intro h6 o2' F6 N6 ho2'
  k_steps
  unfold Stop10
  rename Fr h₀ _ _ _ => kF
  refine told_code w dp un gd a ccd c1 c2 [] A₀ base h₀ L _ _ p loose mean mg mb Rr B kF X T hcd (by omega) (by omega) _ N6 (.tail _ (.tail _ (.tail _ (.tail _ (.head _))))) rfl hTw hes.2 ?_
  intro h7 tk7 Dt ts TP7 F7 N7 hP7
  dsimp only
  k_steps
  unfold Stop12
  rename Fr h₀ _ _ _ => kF
  have hm7 : ∀ p ∈ (c2, o2') :: (dn, o5) :: (at_, W.listOf #[.int (pos4 : Nat) u4] k4) :: (dx, lexD w n4 tn4 st pb t1 t2 t3 t4 t5) :: (Dw, LCg.lst ws) :: (c1, o1') :: (pb, W.listOf #[] kp) :: (ch, W.listOf vsC.toArray kc) :: (rp, W.listOf vsR.toArray kr) :: (X0 ++ R2), p ∈ (Dt, LCg.lst ts) :: (TP7 ++ ((c2, o2') :: (dn, o5) :: (at_, W.listOf #[.int (pos4 : Nat) u4] k4) :: (dx, lexD w n4 tn4 st pb t1 t2 t3 t4 t5) :: (Dw, LCg.lst ws) :: (c1, o1') :: (pb, W.listOf #[] kp) :: (ch, W.listOf vsC.toArray kc) :: (rp, W.listOf vsR.toArray kr) :: (X0 ++ R2))) := fun p hp => .tail _ (List.mem_append_right _ hp)
  refine nums_code w dp un gd a ccd c1 c2 [] A₀ base h₀ L _ _ p loose mean mg mb Rr B kF X T hcd (by omega) (by omega) _ N7 (hm7 _ (.head _)) ho2' (hm7 _ (.tail _ (.head _))) lo5 hd5 (hm7 _ (.tail _ (.tail _ (.tail _ (.tail _ (.tail _ (.tail _ (.tail _ (.head _))))))))) rfl (chainMono (fun p hp => hm7 _ (.tail _ (.tail _ (.tail _ (.tail _ (.tail _ (.tail _ (.tail _ (.tail _ (.tail _ (List.mem_append_right _ hp))))))))))) hC2) hes.2 ?_
  intro h8 tk8 Dn us TP8 F8 N8 hP8
  have hm8 : ∀ p ∈ (c2, o2') :: (dn, o5) :: (at_, W.listOf #[.int (pos4 : Nat) u4] k4) :: (dx, lexD w n4 tn4 st pb t1 t2 t3 t4 t5) :: (Dw, LCg.lst ws) :: (c1, o1') :: (pb, W.listOf #[] kp) :: (ch, W.listOf vsC.toArray kc) :: (rp, W.listOf vsR.toArray kr) :: (X0 ++ R2), p ∈ (Dn, LCg.lst us) :: (TP8 ++ ((Dt, LCg.lst ts) :: (TP7 ++ ((c2, o2') :: (dn, o5) :: (at_, W.listOf #[.int (pos4 : Nat) u4] k4) :: (dx, lexD w n4 tn4 st pb t1 t2 t3 t4 t5) :: (Dw, LCg.lst ws) :: (c1, o1') :: (pb, W.listOf #[] kp) :: (ch, W.listOf vsC.toArray kc) :: (rp, W.listOf vsR.toArray kr) :: (X0 ++ R2))))) := fun p hp => .tail _ (List.mem_append_right _ (.tail _ (List.mem_append_right _ hp)))
  dsimp only
  refine nePairs N8 (.tail _ (List.mem_append_right _ (.head _))) (.head _) (hP7.mono fun p hp => .tail _ (List.mem_append_right _ (.tail _ (List.mem_append_left _ hp)))) (hP8.mono fun p hp => .tail _ (List.mem_append_left _ hp)) (Nat.lt_of_lt_of_le (show un + 64 < 9900 by omega) (by decide)) ?_
  walk1
  walk1
  walk1
  rename Fr h₀ _ _ _ => kF
  have hDwp : @Ne Nat pb Dw := hof3.2.2.2.1
  have hmE : ∀ p ∈ (pb, W.listOf ([] : List Value).toArray kp) :: (at_, W.listOf #[.int (pos4 : Nat) u4] k4) :: (dx, lexD w n4 tn4 st pb t1 t2 t3 t4 t5) :: (Dw, LCg.lst ws) :: (c1, o1') :: (ch, W.listOf vsC.toArray kc) :: (X0 ++ R2), p ∈ (c2, o2') :: (dn, o5) :: (at_, W.listOf #[.int (pos4 : Nat) u4] k4) :: (dx, lexD w n4 tn4 st pb t1 t2 t3 t4 t5) :: (Dw, LCg.lst ws) :: (c1, o1') :: (pb, W.listOf #[] kp) :: (ch, W.listOf vsC.toArray kc) :: (rp, W.listOf vsR.toArray kr) :: (X0 ++ R2) := by
    intro p hp
    simp only [List.mem_cons] at hp ⊢
    rcases hp with h | h | h | h | h | h | h <;> simp only [h, true_or, or_true]
  refine end_code w dp un gd a ccd c1 c2 A₀ base h₀ L _ _ p loose mean mg mb Rr B kF X T hcd (by omega) (by omega) hE hXT.1 hXT.2 ((Dw, LCg.lst ws) :: (c1, o1') :: (ch, W.listOf vsC.toArray kc) :: (X0 ++ R2)) (fun p hp => N8 p (hm8 p (hmE p hp))) (LI.mono fun p hp => .tail _ (.tail _ (.tail _ (List.mem_append_left _ hp)))) ?_ ?_ ne1 htx rfl hdr4 ⟨hn40, hn41⟩ (by have z : (strOf (es.flatMap wordE)).cps.toList.length = (es.flatMap wordE).length := rfl; omega) (.tail _ (.head _)) ho1' (.head _) hTw hes.2 rfl rfl rfl hsl hsi h63 (.tail _ (.tail _ (.head _))) (chainMono (fun p hp => .tail _ (.tail _ (.tail _ (List.mem_append_right _ hp)))) hC2) (fun h9 tk9 m9 F9 N9 => ret h9 tk9 m9 ps F9 (fun p hp => N9 p (by rw [List.mem_singleton.mp hp]; exact .tail _ (.tail _ (.tail _ (List.mem_append_right _ h112))))))
  · intro p hp b hb
    rw [List.mem_singleton.mp hb]
    simp only [List.mem_cons] at hp
    rcases hp with rfl | rfl | rfl | rfl | rfl | hp
    · exact ne2
    · exact ne3
    · exact Ne.symm hDwp
    · (show @Ne Nat _ _); omega
    · (show @Ne Nat _ _); omega
    · exact hoB p hp pb (.tail _ (.tail _ (.head _)))
  · intro p hp b hb
    rcases List.mem_cons.mp hp with rfl | hp
    · have hb2 : b = at_ ∨ b = dx := by simpa only [List.mem_cons, List.not_mem_nil, or_false] using hb
      rcases hb2 with rfl | rfl
      · exact Ne.symm hof3.1
      · exact Ne.symm hof3.2.1
    rcases List.mem_cons.mp hp with rfl | hp
    · exact hoff2 _ (.head _) b hb
    rcases List.mem_cons.mp hp with rfl | hp
    · exact hoff2 _ (.tail _ (.tail _ (.tail _ (.head _)))) b hb
    · exact hoff2 _ (.tail _ (.tail _ (.tail _ (.tail _ (.tail _ hp))))) b hb
end Mine

namespace Mine
set_option maxHeartbeats 20000000
noncomputable def Stop5x (P : Prop) : Prop := P
theorem Stop5x.go {P : Prop} (h : Stop5x P) : P := h
local macro_rules | `(tactic| walk_at "exec For") => `(tactic| (refine Stop5x.go ?_))
local macro_rules | `(tactic| walk_at "exec For Name") => `(tactic| (refine Stop5x.go ?_))
local macro_rules | `(tactic| walk_at "exec For Name BinOp") => `(tactic| (refine Stop5x.go ?_))
local macro_rules | `(tactic| walk_at "pyIter ref") => `(tactic| (refine Stop5x.go ?_))
local macro_rules | `(tactic| walk_at "subscriptTail") => `(tactic| (k_here; (with_reducible show wpAny _ _ (subscriptTail _ (PySem.Expr.Slice _ _ none _) (Value.ref _) (Value.ref _)) _ _ _); (refine kba_turn (value' := PySem.Expr.Name (PySem.Str.ofString "_") ⟨0, 0, 0, 0⟩) (fun _ => rfl) ?_); k_dflt (refine' kmk_slice_ints ?yF ?yN ?yl ?yp ?yq ?yi (pickN ?yii 6) ?yc ?_ ?ys ?yt ?yz; (case yF => k_asm); (case yN => k_asm); (case yl => kmk_list); (case yp => kmk_part); (case yq => exact IsPart.int _ _); (case yi => assumption); (case yii => assumption); (case yc => exact rfl); (case ys => with_unfolding_all rfl); (case yt => kmk_pure); (case yz => exact intsLen (by assumption) (by simp only [List.length_append, List.length_cons, List.length_nil]; omega))); intro D' ws' h' F' N' l1 hI' hC' hL'; (try k_lt l1)))
local macro_rules | `(tactic| walk_at "subscriptTail BinOp Slice") => `(tactic| (k_here; (with_reducible show wpAny _ _ (subscriptTail _ (PySem.Expr.Slice _ _ none _) (Value.ref _) (Value.ref _)) _ _ _); (refine kba_turn (value' := PySem.Expr.Name (PySem.Str.ofString "_") ⟨0, 0, 0, 0⟩) (fun _ => rfl) ?_); k_dflt (refine' kmk_slice_ints ?yF ?yN ?yl ?yp ?yq ?yi (pickN ?yii 6) ?yc ?_ ?ys ?yt ?yz; (case yF => k_asm); (case yN => k_asm); (case yl => kmk_list); (case yp => kmk_part); (case yq => exact IsPart.int _ _); (case yi => assumption); (case yii => assumption); (case yc => exact rfl); (case ys => with_unfolding_all rfl); (case yt => kmk_pure); (case yz => exact intsLen (by assumption) (by simp only [List.length_append, List.length_cons, List.length_nil]; omega))); intro D' ws' h' F' N' l1 hI' hC' hL'; (try k_lt l1)))
local macro_rules | `(tactic| walk_at "subscriptTail BinOp Slice ref ref") => `(tactic| (k_here; (with_reducible show wpAny _ _ (subscriptTail _ (PySem.Expr.Slice _ _ none _) (Value.ref _) (Value.ref _)) _ _ _); (refine kba_turn (value' := PySem.Expr.Name (PySem.Str.ofString "_") ⟨0, 0, 0, 0⟩) (fun _ => rfl) ?_); k_dflt (refine' kmk_slice_ints ?yF ?yN ?yl ?yp ?yq ?yi (pickN ?yii 6) ?yc ?_ ?ys ?yt ?yz; (case yF => k_asm); (case yN => k_asm); (case yl => kmk_list); (case yp => kmk_part); (case yq => exact IsPart.int _ _); (case yi => assumption); (case yii => assumption); (case yc => exact rfl); (case ys => with_unfolding_all rfl); (case yt => kmk_pure); (case yz => exact intsLen (by assumption) (by simp only [List.length_append, List.length_cons, List.length_nil]; omega))); intro D' ws' h' F' N' l1 hI' hC' hL'; (try k_lt l1)))
theorem news8 {h₀ h : Heap} {L : Addr} {p1 p2 p3 p4 p5 p6 p7 p8 : Addr × Obj} (N : News h₀ L h [p1, p2, p3, p4, p5, p6, p7, p8]) : News h₀ L h (p5 :: p4 :: [p1, p6, p7, p8]) := fun p hp => N p (by
  simp only [List.mem_cons, List.not_mem_nil, or_false] at hp ⊢
  rcases hp with h | h | h | h | h | h <;> simp only [h, true_or, or_true])
theorem off2 {R : List (Addr × Obj)} {x y : Addr} (h0 : ∀ p ∈ R, p.1 ≠ x) (h1 : ∀ p ∈ R, p.1 ≠ y) : OwnOff R [x, y] := by
  intro p hp b hb
  rcases List.mem_cons.mp hb with rfl | hb
  · exact h0 p hp
  · rw [List.mem_singleton.mp hb]; exact h1 p hp
theorem lenSix (l : List Int) : (List.take 6 (l ++ [39, 6, 13])).length ≤ 6 ∧ 3 ≤ (List.take 6 (l ++ [39, 6, 13])).length := by
  rw [List.length_take, List.length_append]
  simp only [List.length_cons, List.length_nil]
  omega
theorem newsP {h₀ h : Heap} {L : Addr} {ch rp d a b c : Addr × Obj} {TR : List (Addr × Obj)} (N : News h₀ L h (ch :: rp :: (TR ++ [d, a, b, c]))) : News h₀ L h (c :: b :: a :: ch :: rp :: TR) := fun p hp => N p (by
  simp only [List.mem_cons, List.mem_append, List.not_mem_nil, or_false] at hp ⊢
  rcases hp with h | h | h | h | h | h <;> simp only [h, true_or, or_true])
noncomputable def law_t.tw17720635698081837556 : Nat := 0
noncomputable def law_t.tw2179279529466427243 : Nat := 0
noncomputable def law_t.tw1733707174954215675 : Nat := 0
noncomputable def law_t.tw11261291194862711451 : Nat := 0
noncomputable def law_t.tw495740884506587256 : Nat := 0
noncomputable def law_t.tw11651156649258762694 : Nat := 0
noncomputable def law_t.tw9158560862199823634 : Nat := 0
noncomputable def law_t.tw2318274381021021017 : Nat := 0
noncomputable def law_t.tw8662524965851275121 : Nat := 0
noncomputable def law_t.tw13069095484428372553 : Nat := 0
noncomputable def law_t.tw11565584647281906885 : Nat := 0
noncomputable def law_t.tw3323354217428617351 : Nat := 0
noncomputable def law_t.tw13217234823800856510 : Nat := 0
noncomputable def law_t.tw14019393348520419629 : Nat := 0
noncomputable def law_t.tw14682113607040963522 : Nat := 0
set_option Elab.async true in
theorem law_t : PySem.Challenge.rw_tr0043_01.Holds := by
  w_on
  o_law
  o_head (kHook wPart hkAs (fun _ => by kernel_rfl))
  case hw => w_witness2
  w_top off
  k_go0
  all_goals (try k_fold)
  k_steps
  unfold Stop5x
  rename Fr _ _ _ _ => kF
  rename IntsAre _ _ => hIq
  rename (¬ ((63 : Nat) : Int) < _) => h63
  refine For_turns kF ?_
  walk1
  walk1
  walk1
  walk1
  walk1
  walk1
  walk1
  walk1
  walk1
  walk1
  walk1
  walk1
  walk1
  walk1
  walk1
  walk1
  walk1
  walk1
  walk1
  rename_i D6 ws6 h6 F6 N6 hI6 hC6 hL6 l6


  rename_i ow2 ow1 hlc2 hlc1 hcells X0 T0 K0 l0 chA h6a la3 h5a tka rpA h4a la2 h3a h2a lA h1a la1 Da wsa ha Fa Na hIa laa
  obtain ⟨lx1, lx2, lx3⟩ := la3
  have ly := la2.1
  have lz : @LT.lt Nat _ rpA D6 ∧ @LT.lt Nat _ chA D6 := ⟨l6.2.2.1, l6.2.2.2.1⟩
  have ht0 : Str.ofString "" = strOf [] := by decide +kernel
  refine loop1_code (px := noExpr) _ _ _ _ _ _ _ [] callerA _ _ _ _ _ _ _ _ _ _ (fun _ _ => True) K0 F6 X0 T0 codeHd ?yhd ?yhu _ (news8 N6) (.head _) ?yoff ?yne hI6 (lenSix _).1 rfl rfl rfl (congrArg (fun x => some (Value.str x _)) ht0) ?yret
  case yhd => decide
  case yhu => decide
  case yne => (show @Ne Nat _ _); omega
  case yoff =>
    intro p hp b hb
    simp only [List.mem_cons, List.not_mem_nil, or_false] at hp hb
    rcases hp with rfl | rfl | rfl | rfl <;> rcases hb with rfl | rfl <;> ((show @Ne Nat _ _); omega)
  case yret =>
    intro h7 tk7 m7 vsC vsR kc kr t TR I F7 N7 e1 e2 e3 e4 hC hT ho7 hTI i1 i2 hRI
    dsimp only
    refine rest_code _ _ _ _ _ _ _ _ callerA _ _ _ _ _ _ _ _ _ _ (fun _ _ => True) K0 F7 X0 T0 codeHd ?zhd ?zhu ?zE ⟨X0, T0⟩ TR (newsP N7) ?zlt (fun p hp => Nat.lt_trans i2 (hTI p hp)) hlc1 hlc2 e1 e2 e3 e4 hC hT ?zes lifted hIq ?z63 ?zret
    case zhd => decide
    case zhu => decide
    case zE => passes_own
    case zlt => refine ⟨?_, ?_, ?_, ?_⟩ <;> ((show @LT.lt Nat _ _ _); omega)
    case zes => exact ⟨by rw [List.length_map]; exact (lenSix _).2, by rw [List.length_map]; exact (lenSix _).1⟩
    case z63 => omega
    case zret =>
      intro h9 tk9 m9 ps9 F9 N9
      dsimp only
      k_steps
end Mine

theorem PySem.Challenge.cw_tr0043_01_holds : PySem.Challenge.rw_tr0043_01.Holds :=
  Mine.law_t
