import PyProof.Rows.All
import Wide.All
import OpenK.AllK
import Wide.FinOn
import PySem.Challenge.RW_in0047_01
set_option Elab.async false
set_option maxRecDepth 100000
set_option compiler.extract_closed false
set_option genInjectivity false
set_option genSizeOf false
section
open PySem PySem.W PyProof.Rows
namespace Mine
/-- a def of the text: its parameters, its body, its scope -/
noncomputable def prts : Stmt → (Arguments × Scope) × List Stmt × List Stmt
  | .FunctionDef _ a b _ _ _ s _ _ _ => ((a, s), b, [])
  | .If _ b o _ => (default, b, o)
  | .While _ b o _ => (default, b, o)
  | .For _ _ b o _ => (default, b, o)
  | _ => (default, [], [])
noncomputable def nthS (l : List Stmt) (k : Nat) : Stmt := (l[k]?).getD (.Pass default)
noncomputable def fdOf (i : Nat) : Arguments × List Stmt × Scope := ((prts (nthS PySem.Challenge.pw_in0047_01.main.body i)).1.1, (prts (nthS PySem.Challenge.pw_in0047_01.main.body i)).2.1, (prts (nthS PySem.Challenge.pw_in0047_01.main.body i)).1.2)
/-- the objects of the top that the walks read (printed by a program of mine from the run; the defs' parts are taken from the text) -/
noncomputable def hd.heap_39 : Params → Frag := by
  intro P
  exact (fun (p63 : Arguments) (b63 : List Stmt) (c63 : Scope) (p80 : Arguments) (b80 : List Stmt) (c80 : Scope) (p87 : Arguments) (b87 : List Stmt) (c87 : Scope) (p94 : Arguments) (b94 : List Stmt) (c94 : Scope) (p134 : Arguments) (b134 : List Stmt) (c134 : Scope) (p139 : Arguments) (b139 : List Stmt) (c139 : Scope) (p146 : Arguments) (b146 : List Stmt) (c146 : Scope) (p151 : Arguments) (b151 : List Stmt) (c151 : Scope) (p158 : Arguments) (b158 : List Stmt) (c158 : Scope) (p165 : Arguments) (b165 : List Stmt) (c165 : Scope) (p172 : Arguments) (b172 : List Stmt) (c172 : Scope) (p179 : Arguments) (b179 : List Stmt) (c179 : Scope) (p186 : Arguments) (b186 : List Stmt) (c186 : Scope) (p191 : Arguments) (b191 : List Stmt) (c191 : Scope) (_ : p63 = (fdOf 4).1) (_ : b63 = (fdOf 4).2.1) (_ : c63 = (fdOf 4).2.2) (_ : p80 = (fdOf 8).1) (_ : b80 = (fdOf 8).2.1) (_ : c80 = (fdOf 8).2.2) (_ : p87 = (fdOf 10).1) (_ : b87 = (fdOf 10).2.1) (_ : c87 = (fdOf 10).2.2) (_ : p94 = (fdOf 12).1) (_ : b94 = (fdOf 12).2.1) (_ : c94 = (fdOf 12).2.2) (_ : p134 = (fdOf 33).1) (_ : b134 = (fdOf 33).2.1) (_ : c134 = (fdOf 33).2.2) (_ : p139 = (fdOf 35).1) (_ : b139 = (fdOf 35).2.1) (_ : c139 = (fdOf 35).2.2) (_ : p146 = (fdOf 36).1) (_ : b146 = (fdOf 36).2.1) (_ : c146 = (fdOf 36).2.2) (_ : p151 = (fdOf 37).1) (_ : b151 = (fdOf 37).2.1) (_ : c151 = (fdOf 37).2.2) (_ : p158 = (fdOf 38).1) (_ : b158 = (fdOf 38).2.1) (_ : c158 = (fdOf 38).2.2) (_ : p165 = (fdOf 39).1) (_ : b165 = (fdOf 39).2.1) (_ : c165 = (fdOf 39).2.2) (_ : p172 = (fdOf 40).1) (_ : b172 = (fdOf 40).2.1) (_ : c172 = (fdOf 40).2.2) (_ : p179 = (fdOf 41).1) (_ : b179 = (fdOf 41).2.1) (_ : c179 = (fdOf 41).2.2) (_ : p186 = (fdOf 42).1) (_ : b186 = (fdOf 42).2.1) (_ : c186 = (fdOf 42).2.2) (_ : p191 = (fdOf 43).1) (_ : b191 = (fdOf 43).2.1) (_ : c191 = (fdOf 43).2.2) => ((
    (nat_lit 3,
      { cls := Value.type "dict",
        data :=
          Data.dict
            #[{ hash := PyData.keyHash P (Str.ofString "__name__"),
                key := Value.str (Str.ofString "__name__") 165,
                val := Value.str (Str.ofString "law_in0047_01") 630 },
              { hash := PyData.keyHash P (Str.ofString "__doc__"),
                key := Value.str (Str.ofString "__doc__") 166, val := Value.none },
              { hash := PyData.keyHash P (Str.ofString "__package__"),
                key := Value.str (Str.ofString "__package__") 167, val := Value.none },
              { hash := PyData.keyHash P (Str.ofString "__loader__"),
                key := Value.str (Str.ofString "__loader__") 168,
                val := Value.builtin "__main__.__loader__#opaque" },
              { hash := PyData.keyHash P (Str.ofString "__spec__"),
                key := Value.str (Str.ofString "__spec__") 169, val := Value.none },
              { hash := PyData.keyHash P (Str.ofString "__annotations__"),
                key := Value.str (Str.ofString "__annotations__") 170, val := Value.ref 6 },
              { hash := PyData.keyHash P (Str.ofString "__builtins__"),
                key := Value.str (Str.ofString "__builtins__") 171, val := Value.ref 4 },
              { hash := PyData.keyHash P (Str.ofString "__file__"),
                key := Value.str (Str.ofString "__file__") 173,
                val := Value.str (Str.ofString "/claim/cut.py") 172 },
              { hash := PyData.keyHash P (Str.ofString "__cached__"),
                key := Value.str (Str.ofString "__cached__") 174, val := Value.none },
              { hash := PyData.keyHash P (Str.ofString "_sre"),
                key := Value.str (Str.ofString "_sre") 275, val := Value.ref 12 },
              { hash := PyData.keyHash P (Str.ofString "Error"),
                key := Value.str (Str.ofString "Error") 303, val := Value.ref 41 },
              { hash := PyData.keyHash P (Str.ofString "error_reply"),
                key := Value.str (Str.ofString "error_reply") 319, val := Value.ref 54 },
              { hash := PyData.keyHash P (Str.ofString "parse257"),
                key := Value.str (Str.ofString "parse257") 330, val := Value.ref 63 },
              { hash := PyData.keyHash P (Str.ofString "_twin_re_1"),
                key := Value.str (Str.ofString "_twin_re_1") 368, val := Value.ref 68 },
              { hash := PyData.keyHash P (Str.ofString "_special_chars_map"),
                key := Value.str (Str.ofString "_special_chars_map") 516, val := Value.ref 70 },
              { hash := PyData.keyHash P (Str.ofString "escape"),
                key := Value.str (Str.ofString "escape") 523, val := Value.ref 80 },
              { hash := PyData.keyHash P (Str.ofString "_translate"),
                key := Value.str (Str.ofString "_translate") 544, val := Value.ref 87 },
              { hash := PyData.keyHash P (Str.ofString "S_IFMT"),
                key := Value.str (Str.ofString "S_IFMT") 553, val := Value.ref 94 },
              { hash := PyData.keyHash P (Str.ofString "S_IFDIR"),
                key := Value.str (Str.ofString "S_IFDIR") 555, val := Value.int 16384 554 },
              { hash := PyData.keyHash P (Str.ofString "S_IFCHR"),
                key := Value.str (Str.ofString "S_IFCHR") 557, val := Value.int 8192 556 },
              { hash := PyData.keyHash P (Str.ofString "S_IFBLK"),
                key := Value.str (Str.ofString "S_IFBLK") 559, val := Value.int 24576 558 },
              { hash := PyData.keyHash P (Str.ofString "S_IFREG"),
                key := Value.str (Str.ofString "S_IFREG") 561, val := Value.int 32768 560 },
              { hash := PyData.keyHash P (Str.ofString "S_IFIFO"),
                key := Value.str (Str.ofString "S_IFIFO") 563, val := Value.int 4096 562 },
              { hash := PyData.keyHash P (Str.ofString "S_IFLNK"),
                key := Value.str (Str.ofString "S_IFLNK") 565, val := Value.int 40960 564 },
              { hash := PyData.keyHash P (Str.ofString "S_IFSOCK"),
                key := Value.str (Str.ofString "S_IFSOCK") 567, val := Value.int 49152 566 },
              { hash := PyData.keyHash P (Str.ofString "S_ISUID"),
                key := Value.str (Str.ofString "S_ISUID") 569, val := Value.int 2048 568 },
              { hash := PyData.keyHash P (Str.ofString "S_ISGID"),
                key := Value.str (Str.ofString "S_ISGID") 571, val := Value.int 1024 570 },
              { hash := PyData.keyHash P (Str.ofString "S_ISVTX"),
                key := Value.str (Str.ofString "S_ISVTX") 573, val := Value.int 512 572 },
              { hash := PyData.keyHash P (Str.ofString "S_IRUSR"),
                key := Value.str (Str.ofString "S_IRUSR") 575, val := Value.int 256 574 },
              { hash := PyData.keyHash P (Str.ofString "S_IWUSR"),
                key := Value.str (Str.ofString "S_IWUSR") 577, val := Value.int 128 576 },
              { hash := PyData.keyHash P (Str.ofString "S_IXUSR"),
                key := Value.str (Str.ofString "S_IXUSR") 579, val := Value.int 64 578 },
              { hash := PyData.keyHash P (Str.ofString "S_IRGRP"),
                key := Value.str (Str.ofString "S_IRGRP") 581, val := Value.int 32 580 },
              { hash := PyData.keyHash P (Str.ofString "S_IWGRP"),
                key := Value.str (Str.ofString "S_IWGRP") 583, val := Value.int 16 582 },
              { hash := PyData.keyHash P (Str.ofString "S_IXGRP"),
                key := Value.str (Str.ofString "S_IXGRP") 585, val := Value.int 8 584 },
              { hash := PyData.keyHash P (Str.ofString "S_IROTH"),
                key := Value.str (Str.ofString "S_IROTH") 587, val := Value.int 4 586 },
              { hash := PyData.keyHash P (Str.ofString "S_IWOTH"),
                key := Value.str (Str.ofString "S_IWOTH") 589, val := Value.int 2 588 },
              { hash := PyData.keyHash P (Str.ofString "S_IXOTH"),
                key := Value.str (Str.ofString "S_IXOTH") 591, val := Value.int 1 590 },
              { hash := PyData.keyHash P (Str.ofString "_filemode_table"),
                key := Value.str (Str.ofString "_filemode_table") 617, val := Value.ref 127 },
              { hash := PyData.keyHash P (Str.ofString "filemode"),
                key := Value.str (Str.ofString "filemode") 629, val := Value.ref 134 },
              { hash := PyData.keyHash P (Str.ofString "_law_items"),
                key := Value.str (Str.ofString "_law_items") 637, val := Value.ref 139 },
              { hash := PyData.keyHash P (Str.ofString "_law_signs"),
                key := Value.str (Str.ofString "_law_signs") 649, val := Value.ref 146 },
              { hash := PyData.keyHash P (Str.ofString "_law_step"),
                key := Value.str (Str.ofString "_law_step") 655, val := Value.ref 151 },
              { hash := PyData.keyHash P (Str.ofString "_law_meant"),
                key := Value.str (Str.ofString "_law_meant") 667, val := Value.ref 158 },
              { hash := PyData.keyHash P (Str.ofString "_law_taken"),
                key := Value.str (Str.ofString "_law_taken") 678, val := Value.ref 165 },
              { hash := PyData.keyHash P (Str.ofString "_law_read"),
                key := Value.str (Str.ofString "_law_read") 687, val := Value.ref 172 },
              { hash := PyData.keyHash P (Str.ofString "_law_reply"),
                key := Value.str (Str.ofString "_law_reply") 697, val := Value.ref 179 },
              { hash := PyData.keyHash P (Str.ofString "_law_due"),
                key := Value.str (Str.ofString "_law_due") 706, val := Value.ref 186 },
              { hash := PyData.keyHash P (Str.ofString "law"),
                key := Value.str (Str.ofString "law") 712, val := Value.ref 191 }]
            48 }) ::
    (nat_lit 32,
      { cls := Value.type "tuple", data := Data.seq #[Value.type "Exception"] }) ::
    (nat_lit 39,
      { cls := Value.type "tuple", data := Data.seq #[] }) ::
    (nat_lit 40,
      { cls := Value.type "dict",
        data :=
          Data.dict
            #[{ hash := PyData.keyHash P (Str.ofString "__module__"),
                key := Value.str (Str.ofString "__module__") 291,
                val := Value.str (Str.ofString "cpy313.ftplib") 282 },
              { hash := PyData.keyHash P (Str.ofString "__firstlineno__"),
                key := Value.str (Str.ofString "__firstlineno__") 295, val := Value.int 3 294 },
              { hash := PyData.keyHash P (Str.ofString "__static_attributes__"),
                key := Value.str (Str.ofString "__static_attributes__") 296, val := Value.ref 39 },
              { hash := PyData.keyHash P (Str.ofString "__weakref__"),
                key := Value.str (Str.ofString "__weakref__") 298, val := Value.ref 42 },
              { hash := PyData.keyHash P (Str.ofString "__doc__"),
                key := Value.str (Str.ofString "__doc__") 299, val := Value.none }]
            3 }) ::
    (nat_lit 41,
      { cls := Value.type "type",
        data :=
          Data.cls
            { name := Str.ofString "Error", bases := [Value.type "Exception"],
              mro :=
                [Value.ref 41, Value.type "Exception", Value.type "BaseException",
                  Value.type "object"],
              ns := 40, qualname := Str.ofString "Error", subclasses := [Value.ref 54] },
        slots :=
          #[Option.some (Value.ref 32), Option.none, Option.some (Value.str (Str.ofString "Error") 284),
            Option.some (Value.str (Str.ofString "Error") 292),
            Option.some (Value.builtin "Exception.__new__"), Option.some (Value.bool Bool.true)] }) ::
    (nat_lit 42,
      { cls := Value.type "getset_descriptor",
        data :=
          Data.fields
            #[Value.str (Str.ofString "__weakref__") 297, Value.ref 41,
              Value.builtin "ExceptionGroup.__weakref__", Value.none] }) ::
    (nat_lit 45,
      { cls := Value.type "tuple", data := Data.seq #[Value.ref 41] }) ::
    (nat_lit 52,
      { cls := Value.type "tuple", data := Data.seq #[] }) ::
    (nat_lit 53,
      { cls := Value.type "dict",
        data :=
          Data.dict
            #[{ hash := PyData.keyHash P (Str.ofString "__module__"),
                key := Value.str (Str.ofString "__module__") 311,
                val := Value.str (Str.ofString "cpy313.ftplib") 282 },
              { hash := PyData.keyHash P (Str.ofString "__firstlineno__"),
                key := Value.str (Str.ofString "__firstlineno__") 315, val := Value.int 5 314 },
              { hash := PyData.keyHash P (Str.ofString "__static_attributes__"),
                key := Value.str (Str.ofString "__static_attributes__") 316, val := Value.ref 52 },
              { hash := PyData.keyHash P (Str.ofString "__doc__"),
                key := Value.str (Str.ofString "__doc__") 317, val := Value.none }]
            2 }) ::
    (nat_lit 54,
      { cls := Value.type "type",
        data :=
          Data.cls
            { name := Str.ofString "error_reply", bases := [Value.ref 41],
              mro :=
                [Value.ref 54, Value.ref 41, Value.type "Exception", Value.type "BaseException",
                  Value.type "object"],
              ns := 53, qualname := Str.ofString "error_reply" },
        slots :=
          #[Option.some (Value.ref 45), Option.none,
            Option.some (Value.str (Str.ofString "error_reply") 304),
            Option.some (Value.str (Str.ofString "error_reply") 312),
            Option.some (Value.builtin "Exception.__new__"), Option.some (Value.bool Bool.true)] }) ::
    (nat_lit 57,
      { cls := Value.type "tuple", data := Data.seq #[] }) ::
    (nat_lit 59,
      { cls := Value.type "tuple",
        data :=
          Data.seq
            #[Value.str (Str.ofString "resp") 323, Value.str (Str.ofString "dirname") 324,
              Value.str (Str.ofString "i") 325, Value.str (Str.ofString "n") 326,
              Value.str (Str.ofString "c") 327] }) ::
    (nat_lit 60,
      { cls := Value.type "tuple", data := Data.seq #[] }) ::
    (nat_lit 62,
      { cls := Value.type "code",
        data :=
          Data.fields
            #[Value.str (Str.ofString "parse257") 320, Value.str (Str.ofString "parse257") 321,
              Value.str (Str.ofString "/claim/cut.py") 322, Value.int 7 0, Value.int 1 0,
              Value.int 0 0, Value.int 0 0, Value.int 3 0, Value.ref 57, Value.bool Bool.true,
              Value.int 276 0, Value.ref 58, Value.none, Value.ref 59, Value.ref 60,
              Value.ref 61, Value.int 328 0, Value.int 7 0,
              Value.str (Str.ofString "/claim/cut.py") 329] }) ::
    (nat_lit 63,
      { cls := Value.type "function",
        data :=
          Data.func
            { name := Str.ofString "parse257", qualname := Str.ofString "parse257", params := p63,
              body := FuncBody.stmts b63, scope := c63, globals := 3, closure := [], defaults := Value.none,
              kwdefaults := Value.none, pyModule := Value.str (Str.ofString "cpy313.ftplib") 282,
              code := Value.ref 62 } }) ::
    (nat_lit 67,
      { cls := Value.type "tuple",
        data :=
          Data.seq
            #[Value.int 14 0, Value.int 14 0, Value.int 4 0, Value.int 1 0, Value.int 1 0,
              Value.int 9 0, Value.int 0 0, Value.int 64 0, Value.int 0 0,
              Value.int 1342177280 0, Value.int 0 0, Value.int 0 0, Value.int 0 0,
              Value.int 0 0, Value.int 0 0, Value.int 17 0, Value.int 0 0, Value.int 13 0,
              Value.int 11 0, Value.int 9 0, Value.int 0 0, Value.int 64 0, Value.int 0 0,
              Value.int 1342177280 0, Value.int 0 0, Value.int 0 0, Value.int 0 0,
              Value.int 0 0, Value.int 0 0, Value.int 17 0, Value.int 1 0, Value.int 1 0] }) ::
    (nat_lit 68,
      { cls := Value.type "re.Pattern",
        data :=
          Data.fields
            #[Value.str (Str.ofString "([&~|])") 332, Value.int 32 367, Value.int 1 0,
              Value.none, Value.none, Value.ref 67, Value.int 0 0] }) ::
    (nat_lit 70,
      { cls := Value.type "dict",
        data :=
          Data.dict
            #[{ hash := 40, key := Value.int 40 372, val := Value.str (Str.ofString "\\(") 376 },
              { hash := 41, key := Value.int 41 378, val := Value.str (Str.ofString "\\)") 382 },
              { hash := 91, key := Value.int 91 384, val := Value.str (Str.ofString "\\[") 388 },
              { hash := 93, key := Value.int 93 390, val := Value.str (Str.ofString "\\]") 394 },
              { hash := 123, key := Value.int 123 396, val := Value.str (Str.ofString "\\{") 400 },
              { hash := 125, key := Value.int 125 402, val := Value.str (Str.ofString "\\}") 406 },
              { hash := 63, key := Value.int 63 408, val := Value.str (Str.ofString "\\?") 412 },
              { hash := 42, key := Value.int 42 414, val := Value.str (Str.ofString "\\*") 418 },
              { hash := 43, key := Value.int 43 420, val := Value.str (Str.ofString "\\+") 424 },
              { hash := 45, key := Value.int 45 426, val := Value.str (Str.ofString "\\-") 430 },
              { hash := 124, key := Value.int 124 432, val := Value.str (Str.ofString "\\|") 436 },
              { hash := 94, key := Value.int 94 438, val := Value.str (Str.ofString "\\^") 442 },
              { hash := 36, key := Value.int 36 444, val := Value.str (Str.ofString "\\$") 448 },
              { hash := 92, key := Value.int 92 450, val := Value.str (Str.ofString "\\\\") 454 },
              { hash := 46, key := Value.int 46 456, val := Value.str (Str.ofString "\\.") 460 },
              { hash := 38, key := Value.int 38 462, val := Value.str (Str.ofString "\\&") 466 },
              { hash := 126, key := Value.int 126 468, val := Value.str (Str.ofString "\\~") 472 },
              { hash := 35, key := Value.int 35 474, val := Value.str (Str.ofString "\\#") 478 },
              { hash := 32, key := Value.int 32 480, val := Value.str (Str.ofString "\\ ") 484 },
              { hash := 9, key := Value.int 9 486, val := Value.str (Str.ofString "\\\t") 490 },
              { hash := 10, key := Value.int 10 492, val := Value.str (Str.ofString "\\\n") 496 },
              { hash := 13, key := Value.int 13 498, val := Value.str (Str.ofString "\\\x0d") 502 },
              { hash := 11, key := Value.int 11 504, val := Value.str (Str.ofString "\\\x0b") 508 },
              { hash := 12, key := Value.int 12 510, val := Value.str (Str.ofString "\\\x0c") 514 }]
            24 }) ::
    (nat_lit 74,
      { cls := Value.type "tuple", data := Data.seq #[] }) ::
    (nat_lit 76,
      { cls := Value.type "tuple", data := Data.seq #[Value.str (Str.ofString "pattern") 520] }) ::
    (nat_lit 77,
      { cls := Value.type "tuple", data := Data.seq #[] }) ::
    (nat_lit 79,
      { cls := Value.type "code",
        data :=
          Data.fields
            #[Value.str (Str.ofString "escape") 517, Value.str (Str.ofString "escape") 518,
              Value.str (Str.ofString "/claim/cut.py") 519, Value.int 27 0, Value.int 1 0,
              Value.int 0 0, Value.int 0 0, Value.int 3 0, Value.ref 74, Value.bool Bool.true,
              Value.int 276 0, Value.ref 75, Value.none, Value.ref 76, Value.ref 77,
              Value.ref 78, Value.int 521 0, Value.int 27 0,
              Value.str (Str.ofString "/claim/cut.py") 522] }) ::
    (nat_lit 80,
      { cls := Value.type "function",
        data :=
          Data.func
            { name := Str.ofString "escape", qualname := Str.ofString "escape", params := p80,
              body := FuncBody.stmts b80, scope := c80, globals := 3, closure := [], defaults := Value.none,
              kwdefaults := Value.none, pyModule := Value.str (Str.ofString "re") 369,
              code := Value.ref 79 } }) ::
    (nat_lit 81,
      { cls := Value.type "tuple", data := Data.seq #[] }) ::
    (nat_lit 83,
      { cls := Value.type "tuple",
        data :=
          Data.seq
            #[Value.str (Str.ofString "pat") 529, Value.str (Str.ofString "STAR") 530,
              Value.str (Str.ofString "QUESTION_MARK") 531, Value.str (Str.ofString "res") 532,
              Value.str (Str.ofString "add") 533, Value.str (Str.ofString "i") 534,
              Value.str (Str.ofString "n") 535, Value.str (Str.ofString "c") 536,
              Value.str (Str.ofString "j") 537, Value.str (Str.ofString "stuff") 538,
              Value.str (Str.ofString "chunks") 539, Value.str (Str.ofString "k") 540,
              Value.str (Str.ofString "chunk") 541] }) ::
    (nat_lit 84,
      { cls := Value.type "tuple", data := Data.seq #[] }) ::
    (nat_lit 86,
      { cls := Value.type "code",
        data :=
          Data.fields
            #[Value.str (Str.ofString "_translate") 526, Value.str (Str.ofString "_translate") 527,
              Value.str (Str.ofString "/claim/cut.py") 528, Value.int 34 0, Value.int 3 0,
              Value.int 0 0, Value.int 0 0, Value.int 3 0, Value.ref 81, Value.bool Bool.true,
              Value.int 276 0, Value.ref 82, Value.none, Value.ref 83, Value.ref 84,
              Value.ref 85, Value.int 542 0, Value.int 34 0,
              Value.str (Str.ofString "/claim/cut.py") 543] }) ::
    (nat_lit 87,
      { cls := Value.type "function",
        data :=
          Data.func
            { name := Str.ofString "_translate", qualname := Str.ofString "_translate", params := p87,
              body := FuncBody.stmts b87, scope := c87, globals := 3, closure := [], defaults := Value.none,
              kwdefaults := Value.none, pyModule := Value.str (Str.ofString "cpy313.fnmatch") 524,
              code := Value.ref 86 } }) ::
    (nat_lit 88,
      { cls := Value.type "tuple", data := Data.seq #[] }) ::
    (nat_lit 90,
      { cls := Value.type "tuple", data := Data.seq #[Value.str (Str.ofString "mode") 550] }) ::
    (nat_lit 91,
      { cls := Value.type "tuple", data := Data.seq #[] }) ::
    (nat_lit 93,
      { cls := Value.type "code",
        data :=
          Data.fields
            #[Value.str (Str.ofString "S_IFMT") 547, Value.str (Str.ofString "S_IFMT") 548,
              Value.str (Str.ofString "/claim/cut.py") 549, Value.int 97 0, Value.int 1 0,
              Value.int 0 0, Value.int 0 0, Value.int 3 0, Value.ref 88, Value.bool Bool.true,
              Value.int 276 0, Value.ref 89, Value.none, Value.ref 90, Value.ref 91,
              Value.ref 92, Value.int 551 0, Value.int 97 0,
              Value.str (Str.ofString "/claim/cut.py") 552] }) ::
    (nat_lit 94,
      { cls := Value.type "function",
        data :=
          Data.func
            { name := Str.ofString "S_IFMT", qualname := Str.ofString "S_IFMT", params := p94,
              body := FuncBody.stmts b94, scope := c94, globals := 3, closure := [], defaults := Value.none,
              kwdefaults := Value.none, pyModule := Value.str (Str.ofString "cpy313.stat") 545,
              code := Value.ref 93 } }) ::
    (nat_lit 95,
      { cls := Value.type "tuple",
        data := Data.seq #[Value.int 40960 564, Value.str (Str.ofString "l") 592] }) ::
    (nat_lit 96,
      { cls := Value.type "tuple",
        data := Data.seq #[Value.int 49152 566, Value.str (Str.ofString "s") 593] }) ::
    (nat_lit 97,
      { cls := Value.type "tuple",
        data := Data.seq #[Value.int 32768 560, Value.str (Str.ofString "-") 594] }) ::
    (nat_lit 98,
      { cls := Value.type "tuple",
        data := Data.seq #[Value.int 24576 558, Value.str (Str.ofString "b") 595] }) ::
    (nat_lit 99,
      { cls := Value.type "tuple",
        data := Data.seq #[Value.int 16384 554, Value.str (Str.ofString "d") 596] }) ::
    (nat_lit 100,
      { cls := Value.type "tuple",
        data := Data.seq #[Value.int 8192 556, Value.str (Str.ofString "c") 597] }) ::
    (nat_lit 101,
      { cls := Value.type "tuple",
        data := Data.seq #[Value.int 4096 562, Value.str (Str.ofString "p") 598] }) ::
    (nat_lit 102,
      { cls := Value.type "tuple",
        data :=
          Data.seq
            #[Value.ref 95, Value.ref 96, Value.ref 97, Value.ref 98, Value.ref 99,
              Value.ref 100, Value.ref 101] }) ::
    (nat_lit 103,
      { cls := Value.type "tuple",
        data := Data.seq #[Value.int 256 574, Value.str (Str.ofString "r") 599] }) ::
    (nat_lit 104,
      { cls := Value.type "tuple", data := Data.seq #[Value.ref 103] }) ::
    (nat_lit 105,
      { cls := Value.type "tuple",
        data := Data.seq #[Value.int 128 576, Value.str (Str.ofString "w") 600] }) ::
    (nat_lit 106,
      { cls := Value.type "tuple", data := Data.seq #[Value.ref 105] }) ::
    (nat_lit 107,
      { cls := Value.type "tuple",
        data := Data.seq #[Value.int 2112 601, Value.str (Str.ofString "s") 602] }) ::
    (nat_lit 108,
      { cls := Value.type "tuple",
        data := Data.seq #[Value.int 2048 568, Value.str (Str.ofString "S") 603] }) ::
    (nat_lit 109,
      { cls := Value.type "tuple",
        data := Data.seq #[Value.int 64 578, Value.str (Str.ofString "x") 604] }) ::
    (nat_lit 110,
      { cls := Value.type "tuple",
        data := Data.seq #[Value.ref 107, Value.ref 108, Value.ref 109] }) ::
    (nat_lit 111,
      { cls := Value.type "tuple",
        data := Data.seq #[Value.int 32 580, Value.str (Str.ofString "r") 605] }) ::
    (nat_lit 112,
      { cls := Value.type "tuple", data := Data.seq #[Value.ref 111] }) ::
    (nat_lit 113,
      { cls := Value.type "tuple",
        data := Data.seq #[Value.int 16 582, Value.str (Str.ofString "w") 606] }) ::
    (nat_lit 114,
      { cls := Value.type "tuple", data := Data.seq #[Value.ref 113] }) ::
    (nat_lit 115,
      { cls := Value.type "tuple",
        data := Data.seq #[Value.int 1032 607, Value.str (Str.ofString "s") 608] }) ::
    (nat_lit 116,
      { cls := Value.type "tuple",
        data := Data.seq #[Value.int 1024 570, Value.str (Str.ofString "S") 609] }) ::
    (nat_lit 117,
      { cls := Value.type "tuple",
        data := Data.seq #[Value.int 8 584, Value.str (Str.ofString "x") 610] }) ::
    (nat_lit 118,
      { cls := Value.type "tuple",
        data := Data.seq #[Value.ref 115, Value.ref 116, Value.ref 117] }) ::
    (nat_lit 119,
      { cls := Value.type "tuple",
        data := Data.seq #[Value.int 4 586, Value.str (Str.ofString "r") 611] }) ::
    (nat_lit 120,
      { cls := Value.type "tuple", data := Data.seq #[Value.ref 119] }) ::
    (nat_lit 121,
      { cls := Value.type "tuple",
        data := Data.seq #[Value.int 2 588, Value.str (Str.ofString "w") 612] }) ::
    (nat_lit 122,
      { cls := Value.type "tuple", data := Data.seq #[Value.ref 121] }) ::
    (nat_lit 123,
      { cls := Value.type "tuple",
        data := Data.seq #[Value.int 513 613, Value.str (Str.ofString "t") 614] }) ::
    (nat_lit 124,
      { cls := Value.type "tuple",
        data := Data.seq #[Value.int 512 572, Value.str (Str.ofString "T") 615] }) ::
    (nat_lit 125,
      { cls := Value.type "tuple",
        data := Data.seq #[Value.int 1 590, Value.str (Str.ofString "x") 616] }) ::
    (nat_lit 126,
      { cls := Value.type "tuple",
        data := Data.seq #[Value.ref 123, Value.ref 124, Value.ref 125] }) ::
    (nat_lit 127,
      { cls := Value.type "tuple",
        data :=
          Data.seq
            #[Value.ref 102, Value.ref 104, Value.ref 106, Value.ref 110, Value.ref 112,
              Value.ref 114, Value.ref 118, Value.ref 120, Value.ref 122, Value.ref 126] }) ::
    (nat_lit 128,
      { cls := Value.type "tuple", data := Data.seq #[] }) ::
    (nat_lit 130,
      { cls := Value.type "tuple",
        data :=
          Data.seq
            #[Value.str (Str.ofString "mode") 621, Value.str (Str.ofString "perm") 622,
              Value.str (Str.ofString "index") 623, Value.str (Str.ofString "table") 624,
              Value.str (Str.ofString "bit") 625, Value.str (Str.ofString "char") 626] }) ::
    (nat_lit 131,
      { cls := Value.type "tuple", data := Data.seq #[] }) ::
    (nat_lit 133,
      { cls := Value.type "code",
        data :=
          Data.fields
            #[Value.str (Str.ofString "filemode") 618, Value.str (Str.ofString "filemode") 619,
              Value.str (Str.ofString "/claim/cut.py") 620, Value.int 119 0, Value.int 1 0,
              Value.int 0 0, Value.int 0 0, Value.int 3 0, Value.ref 128, Value.bool Bool.true,
              Value.int 276 0, Value.ref 129, Value.none, Value.ref 130, Value.ref 131,
              Value.ref 132, Value.int 627 0, Value.int 119 0,
              Value.str (Str.ofString "/claim/cut.py") 628] }) ::
    (nat_lit 134,
      { cls := Value.type "function",
        data :=
          Data.func
            { name := Str.ofString "filemode", qualname := Str.ofString "filemode", params := p134,
              body := FuncBody.stmts b134, scope := c134, globals := 3, closure := [], defaults := Value.none,
              kwdefaults := Value.none, pyModule := Value.str (Str.ofString "cpy313.stat") 545,
              code := Value.ref 133 } }) ::
    (nat_lit 135,
      { cls := Value.type "tuple", data := Data.seq #[] }) ::
    (nat_lit 138,
      { cls := Value.type "code",
        data :=
          Data.fields
            #[Value.str (Str.ofString "_law_items") 632, Value.str (Str.ofString "_law_items") 633,
              Value.str (Str.ofString "/claim/cut.py") 634, Value.int 137 0, Value.int 2 0,
              Value.int 0 0, Value.int 0 0, Value.int 3 0, Value.ref 135, Value.bool Bool.true,
              Value.int 276 0, Value.ref 136, Value.none, Value.none, Value.none,
              Value.ref 137, Value.int 635 0, Value.int 137 0,
              Value.str (Str.ofString "/claim/cut.py") 636] }) ::
    (nat_lit 139,
      { cls := Value.type "function",
        data :=
          Data.func
            { name := Str.ofString "_law_items", qualname := Str.ofString "_law_items", params := p139,
              body := FuncBody.stmts b139, scope := c139, globals := 3, closure := [], defaults := Value.none,
              kwdefaults := Value.none, pyModule := Value.str (Str.ofString "law_in0047_01") 630,
              code := Value.ref 138 } }) ::
    (nat_lit 140,
      { cls := Value.type "tuple", data := Data.seq #[] }) ::
    (nat_lit 142,
      { cls := Value.type "tuple",
        data :=
          Data.seq
            #[Value.str (Str.ofString "bits") 641, Value.str (Str.ofString "text") 642,
              Value.str (Str.ofString "k") 643, Value.str (Str.ofString "more") 644,
              Value.str (Str.ofString "three") 645, Value.str (Str.ofString "last") 646] }) ::
    (nat_lit 143,
      { cls := Value.type "tuple", data := Data.seq #[] }) ::
    (nat_lit 145,
      { cls := Value.type "code",
        data :=
          Data.fields
            #[Value.str (Str.ofString "_law_signs") 638, Value.str (Str.ofString "_law_signs") 639,
              Value.str (Str.ofString "/claim/cut.py") 640, Value.int 140 0, Value.int 1 0,
              Value.int 0 0, Value.int 0 0, Value.int 3 0, Value.ref 140, Value.bool Bool.true,
              Value.int 276 0, Value.ref 141, Value.none, Value.ref 142, Value.ref 143,
              Value.ref 144, Value.int 647 0, Value.int 140 0,
              Value.str (Str.ofString "/claim/cut.py") 648] }) ::
    (nat_lit 146,
      { cls := Value.type "function",
        data :=
          Data.func
            { name := Str.ofString "_law_signs", qualname := Str.ofString "_law_signs", params := p146,
              body := FuncBody.stmts b146, scope := c146, globals := 3, closure := [], defaults := Value.none,
              kwdefaults := Value.none, pyModule := Value.str (Str.ofString "law_in0047_01") 630,
              code := Value.ref 145 } }) ::
    (nat_lit 147,
      { cls := Value.type "tuple", data := Data.seq #[] }) ::
    (nat_lit 150,
      { cls := Value.type "code",
        data :=
          Data.fields
            #[Value.str (Str.ofString "_law_step") 650, Value.str (Str.ofString "_law_step") 651,
              Value.str (Str.ofString "/claim/cut.py") 652, Value.int 148 0, Value.int 4 0,
              Value.int 0 0, Value.int 0 0, Value.int 3 0, Value.ref 147, Value.bool Bool.true,
              Value.int 276 0, Value.ref 148, Value.none, Value.none, Value.none,
              Value.ref 149, Value.int 653 0, Value.int 148 0,
              Value.str (Str.ofString "/claim/cut.py") 654] }) ::
    (nat_lit 151,
      { cls := Value.type "function",
        data :=
          Data.func
            { name := Str.ofString "_law_step", qualname := Str.ofString "_law_step", params := p151,
              body := FuncBody.stmts b151, scope := c151, globals := 3, closure := [], defaults := Value.none,
              kwdefaults := Value.none, pyModule := Value.str (Str.ofString "law_in0047_01") 630,
              code := Value.ref 150 } }) ::
    (nat_lit 152,
      { cls := Value.type "tuple", data := Data.seq #[] }) ::
    (nat_lit 154,
      { cls := Value.type "tuple",
        data :=
          Data.seq
            #[Value.str (Str.ofString "items") 659, Value.str (Str.ofString "text") 660,
              Value.str (Str.ofString "places") 661, Value.str (Str.ofString "kind") 662,
              Value.str (Str.ofString "some") 663, Value.str (Str.ofString "barred") 664] }) ::
    (nat_lit 155,
      { cls := Value.type "tuple", data := Data.seq #[] }) ::
    (nat_lit 157,
      { cls := Value.type "code",
        data :=
          Data.fields
            #[Value.str (Str.ofString "_law_meant") 656, Value.str (Str.ofString "_law_meant") 657,
              Value.str (Str.ofString "/claim/cut.py") 658, Value.int 150 0, Value.int 2 0,
              Value.int 0 0, Value.int 0 0, Value.int 3 0, Value.ref 152, Value.bool Bool.true,
              Value.int 276 0, Value.ref 153, Value.none, Value.ref 154, Value.ref 155,
              Value.ref 156, Value.int 665 0, Value.int 150 0,
              Value.str (Str.ofString "/claim/cut.py") 666] }) ::
    (nat_lit 158,
      { cls := Value.type "function",
        data :=
          Data.func
            { name := Str.ofString "_law_meant", qualname := Str.ofString "_law_meant", params := p158,
              body := FuncBody.stmts b158, scope := c158, globals := 3, closure := [], defaults := Value.none,
              kwdefaults := Value.none, pyModule := Value.str (Str.ofString "law_in0047_01") 630,
              code := Value.ref 157 } }) ::
    (nat_lit 159,
      { cls := Value.type "tuple", data := Data.seq #[] }) ::
    (nat_lit 161,
      { cls := Value.type "tuple",
        data :=
          Data.seq
            #[Value.str (Str.ofString "pattern") 671, Value.str (Str.ofString "text") 672,
              Value.str (Str.ofString "star") 673, Value.str (Str.ofString "places") 674,
              Value.str (Str.ofString "part") 675] }) ::
    (nat_lit 162,
      { cls := Value.type "tuple", data := Data.seq #[] }) ::
    (nat_lit 164,
      { cls := Value.type "code",
        data :=
          Data.fields
            #[Value.str (Str.ofString "_law_taken") 668, Value.str (Str.ofString "_law_taken") 669,
              Value.str (Str.ofString "/claim/cut.py") 670, Value.int 156 0, Value.int 2 0,
              Value.int 0 0, Value.int 0 0, Value.int 3 0, Value.ref 159, Value.bool Bool.true,
              Value.int 276 0, Value.ref 160, Value.none, Value.ref 161, Value.ref 162,
              Value.ref 163, Value.int 676 0, Value.int 156 0,
              Value.str (Str.ofString "/claim/cut.py") 677] }) ::
    (nat_lit 165,
      { cls := Value.type "function",
        data :=
          Data.func
            { name := Str.ofString "_law_taken", qualname := Str.ofString "_law_taken", params := p165,
              body := FuncBody.stmts b165, scope := c165, globals := 3, closure := [], defaults := Value.none,
              kwdefaults := Value.none, pyModule := Value.str (Str.ofString "law_in0047_01") 630,
              code := Value.ref 164 } }) ::
    (nat_lit 166,
      { cls := Value.type "tuple", data := Data.seq #[] }) ::
    (nat_lit 168,
      { cls := Value.type "tuple",
        data :=
          Data.seq
            #[Value.str (Str.ofString "reply") 682, Value.str (Str.ofString "name") 683,
              Value.str (Str.ofString "error") 684] }) ::
    (nat_lit 169,
      { cls := Value.type "tuple", data := Data.seq #[] }) ::
    (nat_lit 171,
      { cls := Value.type "code",
        data :=
          Data.fields
            #[Value.str (Str.ofString "_law_read") 679, Value.str (Str.ofString "_law_read") 680,
              Value.str (Str.ofString "/claim/cut.py") 681, Value.int 166 0, Value.int 1 0,
              Value.int 0 0, Value.int 0 0, Value.int 3 0, Value.ref 166, Value.bool Bool.true,
              Value.int 276 0, Value.ref 167, Value.none, Value.ref 168, Value.ref 169,
              Value.ref 170, Value.int 685 0, Value.int 166 0,
              Value.str (Str.ofString "/claim/cut.py") 686] }) ::
    (nat_lit 172,
      { cls := Value.type "function",
        data :=
          Data.func
            { name := Str.ofString "_law_read", qualname := Str.ofString "_law_read", params := p172,
              body := FuncBody.stmts b172, scope := c172, globals := 3, closure := [], defaults := Value.none,
              kwdefaults := Value.none, pyModule := Value.str (Str.ofString "law_in0047_01") 630,
              code := Value.ref 171 } }) ::
    (nat_lit 173,
      { cls := Value.type "tuple", data := Data.seq #[] }) ::
    (nat_lit 175,
      { cls := Value.type "tuple",
        data :=
          Data.seq
            #[Value.str (Str.ofString "good") 691, Value.str (Str.ofString "name") 692,
              Value.str (Str.ofString "bits") 693, Value.str (Str.ofString "head") 694] }) ::
    (nat_lit 176,
      { cls := Value.type "tuple", data := Data.seq #[] }) ::
    (nat_lit 178,
      { cls := Value.type "code",
        data :=
          Data.fields
            #[Value.str (Str.ofString "_law_reply") 688, Value.str (Str.ofString "_law_reply") 689,
              Value.str (Str.ofString "/claim/cut.py") 690, Value.int 172 0, Value.int 3 0,
              Value.int 0 0, Value.int 0 0, Value.int 3 0, Value.ref 173, Value.bool Bool.true,
              Value.int 276 0, Value.ref 174, Value.none, Value.ref 175, Value.ref 176,
              Value.ref 177, Value.int 695 0, Value.int 172 0,
              Value.str (Str.ofString "/claim/cut.py") 696] }) ::
    (nat_lit 179,
      { cls := Value.type "function",
        data :=
          Data.func
            { name := Str.ofString "_law_reply", qualname := Str.ofString "_law_reply", params := p179,
              body := FuncBody.stmts b179, scope := c179, globals := 3, closure := [], defaults := Value.none,
              kwdefaults := Value.none, pyModule := Value.str (Str.ofString "law_in0047_01") 630,
              code := Value.ref 178 } }) ::
    (nat_lit 180,
      { cls := Value.type "tuple", data := Data.seq #[] }) ::
    (nat_lit 182,
      { cls := Value.type "tuple",
        data :=
          Data.seq
            #[Value.str (Str.ofString "good") 701, Value.str (Str.ofString "name") 702,
              Value.str (Str.ofString "bits") 703] }) ::
    (nat_lit 183,
      { cls := Value.type "tuple", data := Data.seq #[] }) ::
    (nat_lit 185,
      { cls := Value.type "code",
        data :=
          Data.fields
            #[Value.str (Str.ofString "_law_due") 698, Value.str (Str.ofString "_law_due") 699,
              Value.str (Str.ofString "/claim/cut.py") 700, Value.int 175 0, Value.int 3 0,
              Value.int 0 0, Value.int 0 0, Value.int 3 0, Value.ref 180, Value.bool Bool.true,
              Value.int 276 0, Value.ref 181, Value.none, Value.ref 182, Value.ref 183,
              Value.ref 184, Value.int 704 0, Value.int 175 0,
              Value.str (Str.ofString "/claim/cut.py") 705] }) ::
    (nat_lit 186,
      { cls := Value.type "function",
        data :=
          Data.func
            { name := Str.ofString "_law_due", qualname := Str.ofString "_law_due", params := p186,
              body := FuncBody.stmts b186, scope := c186, globals := 3, closure := [], defaults := Value.none,
              kwdefaults := Value.none, pyModule := Value.str (Str.ofString "law_in0047_01") 630,
              code := Value.ref 185 } }) ::
    (nat_lit 187,
      { cls := Value.type "tuple", data := Data.seq #[] }) ::
    (nat_lit 190,
      { cls := Value.type "code",
        data :=
          Data.fields
            #[Value.str (Str.ofString "law") 707, Value.str (Str.ofString "law") 708,
              Value.str (Str.ofString "/claim/cut.py") 709, Value.int 179 0, Value.int 1 0,
              Value.int 0 0, Value.int 0 0, Value.int 3 0, Value.ref 187, Value.bool Bool.true,
              Value.int 276 0, Value.ref 188, Value.none, Value.none, Value.none,
              Value.ref 189, Value.int 710 0, Value.int 179 0,
              Value.str (Str.ofString "/claim/cut.py") 711] }) ::
    (nat_lit 191,
      { cls := Value.type "function",
        data :=
          Data.func
            { name := Str.ofString "law", qualname := Str.ofString "law", params := p191,
              body := FuncBody.stmts b191, scope := c191, globals := 3, closure := [], defaults := Value.none,
              kwdefaults := Value.none, pyModule := Value.str (Str.ofString "law_in0047_01") 630,
              code := Value.ref 190 } }) :: []) : List (Addr × Obj))) _ _ _ _ _ _ _ _ _ _ _ _ _ _ _ _ _ _ _ _ _ _ _ _ _ _ _ _ _ _ _ _ _ _ _ _ _ _ _ _ _ _ (by conv => rhs; whnf) (by conv => rhs; whnf) (by conv => rhs; whnf) (by conv => rhs; whnf) (by conv => rhs; whnf) (by conv => rhs; whnf) (by conv => rhs; whnf) (by conv => rhs; whnf) (by conv => rhs; whnf) (by conv => rhs; whnf) (by conv => rhs; whnf) (by conv => rhs; whnf) (by conv => rhs; whnf) (by conv => rhs; whnf) (by conv => rhs; whnf) (by conv => rhs; whnf) (by conv => rhs; whnf) (by conv => rhs; whnf) (by conv => rhs; whnf) (by conv => rhs; whnf) (by conv => rhs; whnf) (by conv => rhs; whnf) (by conv => rhs; whnf) (by conv => rhs; whnf) (by conv => rhs; whnf) (by conv => rhs; whnf) (by conv => rhs; whnf) (by conv => rhs; whnf) (by conv => rhs; whnf) (by conv => rhs; whnf) (by conv => rhs; whnf) (by conv => rhs; whnf) (by conv => rhs; whnf) (by conv => rhs; whnf) (by conv => rhs; whnf) (by conv => rhs; whnf) (by conv => rhs; whnf) (by conv => rhs; whnf) (by conv => rhs; whnf) (by conv => rhs; whnf) (by conv => rhs; whnf) (by conv => rhs; whnf)
noncomputable def addrs : List Addr := [3, 32, 39, 40, 41, 42, 45, 52, 53, 54, 57, 59, 60, 62, 63, 67, 68, 70, 74, 76, 77, 79, 80, 81, 83, 84, 86, 87, 88, 90, 91, 93, 94, 95, 96, 97, 98, 99, 100, 101, 102, 103, 104, 105, 106, 107, 108, 109, 110, 111, 112, 113, 114, 115, 116, 117, 118, 119, 120, 121, 122, 123, 124, 125, 126, 127, 128, 130, 131, 133, 134, 135, 138, 139, 140, 142, 143, 145, 146, 147, 150, 151, 152, 154, 155, 157, 158, 159, 161, 162, 164, 165, 166, 168, 169, 171, 172, 173, 175, 176, 178, 179, 180, 182, 183, 185, 186, 187, 190, 191]
theorem addrs_eq (P : Params) : addrs = (hd.heap_39 P).map (·.1) := by kernel_rfl
end Mine
end
section
open PySem PySem.W PyProof.Rows
namespace Mine
noncomputable abbrev pw := PySem.Challenge.pw_in0047_01
theorem fill : (PySem.Challenge.rw_in0047_01 = PySem.Challenge.rw_in0047_01) ∧ (hd.heap_39 = hd.heap_39) := by
  k_fill
  exact ⟨rfl, rfl⟩
/-- what a call needs of the heap: the top's own objects -/
structure Good (w : World) (h : Heap) : Prop where
  X : (hd.heap_39 w.params).In h
  T : ∃ p loose mg mb, TopRead p loose mg mb h
theorem Good.keeps {w : World} {h h' : Heap} (G : Good w h) (hk : ∀ b o, h.get? b = some o → h'.get? b = some o) : Good w h' :=
  ⟨G.X.keeps hk, let ⟨p, l, mg, mb, T⟩ := G.T; ⟨p, l, mg, mb, T.keeps hk⟩⟩
noncomputable def A0 (n : Nat) : Around := { handled := none, depth := n, frames := none, guards := none, units := n }
theorem wp_up {α : Type} {M : Model} {A : Around} {n : Nat} {t : Sem α} {Q : α → Shared → Prop} {E : Value → Shared → Prop} {s : Shared}
    (h1 : A.handled = none) (hd : A.depth ≤ n) (hu : A.units ≤ n) (h : wpAny M (A0 n) t Q E s) : wpAny M A t Q E s := by
  intro Γ p hΓ
  exact h Γ p ⟨hΓ.1.trans h1, Nat.le_trans hΓ.2.1 hd, fun l hl => (nomatch hl), fun g hg => (nomatch hg), Nat.le_trans hΓ.2.2.2.2 hu⟩
/-- what a def hands back: v as post says, and what stood stands -/
noncomputable def Ret (s : Shared) (post : Value → Heap → Heap → Prop) (v : Value) (s' : Shared) : Prop := Keeps s s' ∧ post v s.heap s'.heap
theorem Ret.mk {s s' : Shared} {L : Addr} {h : Heap} {m : Str → Option Value} {tk : Nat} {post : Value → Heap → Heap → Prop} {v : Value} (F : Fr s.heap L h m) (e : s' = { s with heap := h, toks := tk })
    (p : post v s.heap h) : Ret s post v s' := ⟨⟨h, tk, e, F.keep⟩, by rw [e]; exact p⟩
/-- the contract of a def: from any good heap it hands back v, and what stood stands -/
noncomputable def Ct (w : World) (lvl : Nat) (f : Addr) (args : List Value) (pre : Heap → Prop) (post : Value → Heap → Heap → Prop) : Prop :=
  ∀ (A : Around) (s : Shared) (E : Value → Shared → Prop), A.handled = none → A.depth ≤ lvl → A.units ≤ lvl → Good w s.heap → pre s.heap →
    wpAny (model pw w) A (call (.ref f) args) (Ret s post) E s
theorem news0 {h₀ h : Heap} {L : Addr} : News h₀ L h [] := News.nil
/-- a frame's names, some of them known -/
noncomputable def over : List (Str × Value) → (Str → Option Value) → Str → Option Value
  | [], m, y => m y
  | (x, v) :: l, m, y => if y = x then some v else over l m y
noncomputable def Has (m : Str → Option Value) : List (Str × Value) → Prop
  | [] => True
  | (x, v) :: l => m x = some v ∧ Has m l
theorem Has.over {m : Str → Option Value} : ∀ {l : List (Str × Value)}, Has m l → Mine.over l m = m
  | [], _ => rfl
  | (x, v) :: l, ⟨h, r⟩ => by
    funext y
    show (if y = x then some v else Mine.over l m y) = m y
    rw [Has.over r]
    by_cases e : y = x
    · rw [if_pos e, e, h]
    · rw [if_neg e]
theorem Fr.over {h₀ h : Heap} {L : Addr} {m : Str → Option Value} {l : List (Str × Value)} (F : Fr h₀ L h m) (H : Has m l) : Fr h₀ L h (over l m) := by rw [H.over]; exact F
theorem Fr.kept {h₀ h h' : Heap} {L : Addr} {m : Str → Option Value} (F : Fr h₀ L h m) (hk : ∀ b o, h.get? b = some o → h'.get? b = some o) : Fr h₀ L h' m :=
  ⟨F.ns.keeps hk, fun b o e => hk b o (F.keep b o e), F.above⟩
theorem News.kept {h₀ h h' : Heap} {L : Addr} {news : List (Addr × Obj)} (N : News h₀ L h news) (hk : ∀ b o, h.get? b = some o → h'.get? b = some o) : News h₀ L h' news :=
  fun p hp => ⟨hk _ _ (N p hp).1, (N p hp).2⟩
theorem news_new {h₀ h h' : Heap} {L r : Addr} {m : Str → Option Value} {o : Obj} {news : List (Addr × Obj)} (F : Fr h₀ L h m) (N : News h₀ L h' news) (hn : h.get? r = none) (ho : h'.get? r = some o) : News h₀ L h' ((r, o) :: news) := by
  intro p hp
  rcases List.mem_cons.mp hp with rfl | hp
  · refine ⟨ho, fun e => ?_, ?_⟩
    · obtain ⟨oL, _, _, hL, _⟩ := F.ns
      have e' : r = L := e
      rw [e', hL] at hn; cases hn
    · cases q : h₀.get? r with
      | none => rfl
      | some o' => rw [F.keep _ _ q] at hn; cases hn
  · exact N p hp
/-- nothing is raised -/
noncomputable abbrev NoE : Value → Shared → Prop := fun _ _ => False
section
variable {prog : Program} {w : World} {A : Around} {R : Result → Shared → Prop} {s : Shared}
theorem for_step {target : PySem.Expr} {it : Value} {body orelse : List Stmt} {env : Env}
    (h : wpAny (model prog w) A (pyNext it) (fun r s₁ => match r with
      | none => wpAny (model prog w) A (execs orelse env) (fun f s₃ => R (.ok f) s₃) NoE s₁
      | some v => wpAny (model prog w) A (letOwnedTupleGo target it v) (fun _ s₂ => wpAny (model prog w) A (assign target env v) (fun _ s₃ => wpAny (model prog w) A (execs body env) (fun f s₄ => match f with
          | .next | .cont => codeAny (model prog w) A (.forLoop target it body orelse env) R s₄
          | .brk => R (.ok .next) s₄
          | .ret v => R (.ok (.ret v)) s₄) NoE s₃) NoE s₂) NoE s₁) NoE s) :
    codeAny (model prog w) A (.forLoop target it body orelse env) R s := by
  refine codeAny_of_tree ?_
  show wpAny _ A ((forTurn target it body orelse env).onRaise (fun x => do noteFrame x env; theTreesLotGoes x)) _ _ s
  have no : ∀ {α : Type} {t : Sem α} {Q : α → Shared → Prop} {E : Value → Shared → Prop} {s : Shared}, wpAny (model prog w) A t Q NoE s → wpAny (model prog w) A t Q E s := fun h => wpAny_mono h (fun _ _ x => x) fun _ _ f => f.elim
  refine wpAny_noted ?_
  simp only [forTurn]
  refine wpAny_bind (wpAny_standAt (wpAny_bind (wpAny_onRaise (wpAny_mono h (fun r s₁ h₁ => ?_) fun _ _ h' => h'.elim))))
  cases r with
  | none => exact wpAny_pure ⟨rfl, codeAny_block (no h₁)⟩
  | some v =>
    refine wpAny_bind (wpAny_mono h₁ (fun _ s₂ h₂ => wpAny_bind (wpAny_mono h₂ (fun _ s₃ h₃ => wpAny_bind (wpAny_mono h₃ (fun f s₄ h₄ => ?_) fun _ _ h' => h'.elim)) fun _ _ h' => h'.elim)) fun _ _ h' => h'.elim)
    cases f with
    | next => exact wpAny_pure ⟨rfl, h₄⟩
    | cont => exact wpAny_pure ⟨rfl, h₄⟩
    | brk => exact wpAny_pure h₄
    | ret v => exact wpAny_pure h₄
theorem while_step {test : PySem.Expr} {body orelse : List Stmt} {env : Env}
    (h : wpAny (model prog w) A (isTrue test env (eval test env)) (fun b s₂ => if b = true then wpAny (model prog w) A (execs body env) (fun f s₃ => match f with
          | .next | .cont => codeAny (model prog w) A (.whileLoop test body orelse env) R s₃
          | .brk => R (.ok .next) s₃
          | .ret v => R (.ok (.ret v)) s₃) NoE s₂
        else wpAny (model prog w) A (execs orelse env) (fun f s₃ => R (.ok f) s₃) NoE s₂) NoE s) :
    codeAny (model prog w) A (.whileLoop test body orelse env) R s := by
  refine codeAny_of_tree ?_
  show wpAny _ A ((whileTurn test body orelse env).onRaise (fun x => do noteFrame x env; theTreesLotGoes x)) _ _ s
  refine wpAny_noted ?_
  simp only [whileTurn]
  refine wpAny_bind (wpAny_mono h (fun b s₂ h₂ => ?_) fun _ _ h' => h'.elim)
  cases b with
  | false =>
    simp only [Bool.false_eq_true, if_false] at h₂ ⊢
    exact wpAny_bind (wpAny_mono h₂ (fun f s₃ h₃ => wpAny_pure h₃) fun _ _ h' => h'.elim)
  | true =>
    simp only [if_true] at h₂ ⊢
    refine wpAny_bind (wpAny_mono h₂ (fun f s₃ h₃ => ?_) fun _ _ h' => h'.elim)
    cases f with
    | next => exact wpAny_pure ⟨rfl, h₃⟩
    | cont => exact wpAny_pure ⟨rfl, h₃⟩
    | brk => exact wpAny_pure h₃
    | ret v => exact wpAny_pure h₃
theorem comp_step {elt target iter : PySem.Expr} {ifs : List PySem.Expr} {scope : Scope} {pos : Pos} {it acc : Value} {env : Env}
    (h : wpAny (model prog w) A (pyNext it) (fun r s₁ => match r with
      | none => R (.ok .next) s₁
      | some v => wpAny (model prog w) A (letOwnedTupleGo target it v) (fun _ s₀ => wpAny (model prog w) A (assign target env v) (fun _ s₂ =>
          wpAny (model prog w) A (forIn ifs true fun c r => if r = true then do let ok ← isTrue c env (eval c env); pure (ForInStep.yield ok) else pure (ForInStep.yield r)) (fun ok s₃ =>
            if ok = true then wpAny (model prog w) A (eval elt env) (fun x s₄ =>
              wpAny (model prog w) A (call (.builtin "list.append") [acc, x]) (fun _ s₅ => codeAny (model prog w) A (.compLoop (.ListComp elt [⟨target, iter, ifs, 0⟩] scope pos) 0 it acc env) R s₅) NoE s₄) NoE s₃
            else codeAny (model prog w) A (.compLoop (.ListComp elt [⟨target, iter, ifs, 0⟩] scope pos) 0 it acc env) R s₃) NoE s₂) NoE s₀) NoE s₁) NoE s) :
    codeAny (model prog w) A (.compLoop (.ListComp elt [⟨target, iter, ifs, 0⟩] scope pos) 0 it acc env) R s := by
  refine codeAny_of_tree ?_
  show wpAny _ A ((compTurn (.ListComp elt [⟨target, iter, ifs, 0⟩] scope pos) 0 it acc env).onRaise (fun x => do noteFrame x env; theTreesLotGoes x)) _ _ s
  refine wpAny_noted ?_
  rw [compTurn_list]
  refine wpAny_bind (wpAny_standAt (wpAny_bind (wpAny_mono h (fun r s₁ h₁ => ?_) fun _ _ h' => h'.elim)))
  cases r with
  | none => exact wpAny_pure h₁
  | some v =>
    refine wpAny_bind (wpAny_mono h₁ (fun _ s₀ h₀ => ?_) fun _ _ h' => h'.elim)
    refine wpAny_bind (wpAny_mono h₀ (fun _ s₂ h₂ => wpAny_bind (wpAny_mono h₂ (fun ok s₃ h₃ => ?_) fun _ _ h' => h'.elim)) fun _ _ h' => h'.elim)
    cases ok with
    | false => exact wpAny_pure ⟨rfl, h₃⟩
    | true =>
      exact wpAny_bind (wpAny_bind (wpAny_mono h₃ (fun x s₄ h₄ => wpAny_bind (wpAny_mono h₄ (fun _ s₅ h₅ => wpAny_pure (wpAny_pure ⟨rfl, h₅⟩)) fun _ _ h' => h'.elim)) fun _ _ h' => h'.elim))
theorem letGo_name {x : Str} {px : Pos} {it v : Value} {E : Value → Shared → Prop} {Q : Unit → Shared → Prop} (hQ : Q () s) : wpAny (model prog w) A (letOwnedTupleGo (.Name x px) it v) Q E s := wpAny_pure hQ
theorem letGo_tupiter {elts : List PySem.Expr} {x1} {pos : Pos} {I l T : Addr} {i : Nat} {E : Value → Shared → Prop} {Q : Unit → Shared → Prop} (hit : s.heap.IsTupleIter I l i) (hQ : Q () s) :
    wpAny (model prog w) A (letOwnedTupleGo (.Tuple elts x1 pos) (.ref I) (.ref T)) Q E s := by
  obtain ⟨o, ho, hc, hd⟩ := hit
  unfold letOwnedTupleGo
  refine wpAny_bind (wpAny_load ho ?_)
  rw [hc, hd]
  show wpAny _ A (if (["enumerate", "zip", "dict_itemiterator", "dict_reverseitemiterator", "odict_iterator", "itertools.zip_longest", "itertools.pairwise"].contains "tuple_iterator" &&
      (#[.ref l, .int i 0] : Array Value)[0]? == some (rawInt T)) = true then _ else _) Q E s
  rw [if_neg (by
    intro h
    rw [show (["enumerate", "zip", "dict_itemiterator", "dict_reverseitemiterator", "odict_iterator", "itertools.zip_longest", "itertools.pairwise"].contains "tuple_iterator") = false from by decide, Bool.false_and] at h
    cases h)]
  exact wpAny_pure hQ
end
end Mine
end
section
open PySem PySem.W PyProof.Rows
namespace Mine
section
variable {prog : Program} {w : World} {A : Around} {E : Value → Shared → Prop} {s : Shared}
theorem nextOf_tup_item {it l : Addr} {i : Nat} {items : Array Value} {x : Value} {Q : Value → Shared → Prop} (hit : s.heap.IsTupleIter it l i)
    (hl : s.heap.IsTuple l items) (hx : items[i]? = some x)
    (hQ : ∀ h', h'.IsTupleIter it l (i + 1) → Heap.SameBut it s.heap h' → Q x { s with heap := h' }) :
    wpAny (model prog w) A (Builtin.SmallTypes.nextOf (.ref it)) Q E s := by
  obtain ⟨o, ho, hc, hd⟩ := id hit
  obtain ⟨ol, hol, _, nl, hdl⟩ := hl
  unfold Builtin.SmallTypes.nextOf
  refine wpAny_bind (wpAny_callSpecial?_slot (name := Str.ofString "__next__") hit.typeIs F.slot_tuple_iterator_next
    (wpAny_call_entry F.slot_tuple_iterator_next hit.typeIs F.entry_tuple_iterator_next ?_ (F.args_tuple_iterator_next_1 _)))
  show wpAny _ _ (field (.ref it) 0 >>= _) _ _ s
  refine wpAny_bind (wpAny_field ho hd (x := .ref l) rfl ?_)
  show wpAny _ _ (if (Value.ref l == Value.none) = true then _ else _) _ _ s
  rw [if_neg (show ¬ ((Value.ref l == Value.none) = true) from Bool.false_ne_true)]
  show wpAny _ _ (field (.ref it) 1 >>= _) _ _ s
  refine wpAny_bind (wpAny_field ho hd (x := .int i 0) rfl ?_)
  show wpAny _ _ (seqItems? (.ref l) >>= _) _ _ s
  refine wpAny_bind (wpAny_seqItems hol hdl ?_)
  simp only [Int.toNat_natCast, hx]
  refine wpAny_bind (wpAny_setField ho hd (by simp) (wpAny_pure ⟨x, rfl, wpAny_pure (hQ _ ?_ (Heap.SameBut.update ..))⟩))
  exact ⟨_, Heap.get?_update_self _ ho (Obj.isFreed_of_fields (Obj.data_mapFields hd _)), (Obj.cls_mapFields ..).trans hc, by
    rw [Obj.data_mapFields hd]; simp [rawInt]⟩
theorem nextOf_tup_end {it l : Addr} {i : Nat} {items : Array Value} {Q : Value → Shared → Prop} (hh : A.handled = none)
    (hit : s.heap.IsTupleIter it l i) (hl : s.heap.IsTuple l items) (hx : items[i]? = none)
    (hE : ∀ h' e, Heap.ExtBut it s.heap h' → (∃ o, h'.get? e = some o ∧ o.cls = .type "StopIteration") → E (.ref e) { s with heap := h' }) :
    wpAny (model prog w) A (Builtin.SmallTypes.nextOf (.ref it)) Q E s := by
  obtain ⟨o, ho, hc, hd⟩ := id hit
  obtain ⟨ol, hol, _, nl, hdl⟩ := hl
  unfold Builtin.SmallTypes.nextOf
  refine wpAny_bind (wpAny_callSpecial?_slot (name := Str.ofString "__next__") hit.typeIs F.slot_tuple_iterator_next
    (wpAny_call_entry F.slot_tuple_iterator_next hit.typeIs F.entry_tuple_iterator_next ?_ (F.args_tuple_iterator_next_1 _)))
  show wpAny _ _ (field (.ref it) 0 >>= _) _ _ s
  refine wpAny_bind (wpAny_field ho hd (x := .ref l) rfl ?_)
  show wpAny _ _ (if (Value.ref l == Value.none) = true then _ else _) _ _ s
  rw [if_neg (show ¬ ((Value.ref l == Value.none) = true) from Bool.false_ne_true)]
  show wpAny _ _ (field (.ref it) 1 >>= _) _ _ s
  refine wpAny_bind (wpAny_field ho hd (x := .int i 0) rfl ?_)
  show wpAny _ _ (seqItems? (.ref l) >>= _) _ _ s
  refine wpAny_bind (wpAny_seqItems hol hdl ?_)
  simp only [Int.toNat_natCast, hx]
  refine wpAny_bind (wpAny_rule (wpAny_bind (wpAny_setField ho hd (by simp) ?_)))
  show wpAny _ _ (newExc (.type "StopIteration") [] >>= _) _ _ _
  refine wpAny_bind ?_
  simp only [newExc, newTuple]
  refine wpAny_bind (wpAny_newObj_type ?_ (by size_fits))
  refine wpAny_bind (m := firstArgMember _ _) (wpAny_of_eq (a := Value.none) (by first | rfl | (simp only [firstArgMember]; rfl)) ?_)
  refine wpAny_newObj_type ?_ (by size_fits)
  simp only [raiseNew]
  refine wpAny_bind (wpAny_handled ?_)
  first | rw [show A.in1.handled = none from hh] | rw [hh]
  refine wpAny_bind (wpAny_pure (wpAny_throw ?_))
  exact hE _ _ (((Heap.SameBut.update ..).extBut.push _).push _) ⟨_, Heap.get?_push_size _ rfl, rfl⟩
end
theorem Draws_tuple {prog : Program} {w : World} {A : Around} (hh : A.handled = none) (it l : Addr) (hne : l ≠ it) (items : Array Value) :
    Draws prog w A it [it, l] items.size (fun i v => items[i]? = some v) (fun i h => h.IsTupleIter it l i ∧ h.IsTuple l items) where
  live := fun _ _ st => let ⟨o, ho, _⟩ := st.1; ⟨o, ho⟩
  frame := fun _ _ _ st hk => ⟨st.1.at fun o e => hk it (by simp) o e, st.2.at fun o e => hk l (by simp) o e⟩
  item := fun i s Q E hi st hQ => by
    refine nextOf_tup_item st.1 st.2 (x := items[i]) (by simp [hi]) fun h' hit' hs' => ?_
    exact hQ _ h' s.toks (by simp [hi]) ⟨hit', st.2.extBut hs'.extBut hne⟩ hs'
  done := fun s Q E st hE => nextOf_tup_end hh st.1 st.2 (by simp) hE
open AutoSeq1 (wpAny_loadPart') in
theorem meets_enumerate_newT (l : Addr) (items : Array Value) (n : Nat) (dct : Option Addr) (sl : Array (Option Value)) :
    Meets (Builtin.«enumerate.__new__» ⟨[.type "enumerate", .ref l], []⟩) (fun _ R s => s.heap.get? l = some { cls := .type "tuple", dict := dct, data := .seq items n, slots := sl } ∧
      R (.ok (.ret (.ref (s.heap.push { cls := .type "tuple_iterator", data := .fields #[.ref l, .int 0 0] }).objs.size)))
        { s with heap := (s.heap.push { cls := .type "tuple_iterator", data := .fields #[.ref l, .int 0 0] }).push { cls := .type "enumerate", data := .fields #[.none, .bool false, .ref s.heap.objs.size, rawInt 0, .none, .none] } }) :=
  .of_wp fun prog w A R s h => by
    obtain ⟨hp, g, d, tk, os⟩ := s; obtain ⟨hl, h⟩ := h
    have hsub := sub_enumerate
    have hL : Heap.IsTuple (Shared.heap ⟨hp, g, d, tk, os⟩) l items := ⟨_, hl, rfl, n, rfl⟩
    wp_walk using wpAny_loadPart' hl
    refine wpAny_stack_any fun st => wpAny_pure ?_
    split
    · rename_i c _ _ _ _ _
      cases (c == Value.type "enumerate")
      · wp_walk using wpAny_loadPart' hl, wpAny_pyIter_tuple hL
        exact ⟨_, rfl, h⟩
      · wp_walk using wpAny_loadPart' hl, wpAny_pyIter_tuple hL
        exact ⟨_, rfl, h⟩
    · wp_walk using wpAny_loadPart' hl, wpAny_pyIter_tuple hL
      exact ⟨_, rfl, h⟩
theorem call_enumerate_tup {prog : Program} {w : World} {A : Around} {E : Value → Shared → Prop} {s : Shared} {l : Addr} {items : Array Value} {Q : Value → Shared → Prop} (hL : s.heap.IsTuple l items)
    (h : ∀ h', IsEnum h' (s.heap.objs.size + 1) s.heap.objs.size 0 .none → h'.IsTupleIter s.heap.objs.size l 0 → h'.objs.size = s.heap.objs.size + 2 →
      (∀ b o, s.heap.get? b = some o → h'.get? b = some o) → Q (.ref (s.heap.objs.size + 1)) { s with heap := h' }) :
    wpAny (model prog w) A (call (.type "enumerate") [.ref l]) Q E s := by
  obtain ⟨⟨c, dct, dt, sl⟩, hl, hc, n, hd⟩ := hL
  replace hc : c = .type "tuple" := hc
  replace hd : dt = .seq items n := hd
  subst hc hd
  refine callType_new F.called_enumerate (by decide) (F.typeCall_enumerate_1 _) (F.newCall_enumerate_1 _) (fun obj => F.args_object_init_2 obj _) F.entry_enumerate_new
    (meets_enumerate_newT l items n dct sl) ⟨hl, ?_⟩
  have hz : (s.heap.push { cls := .type "tuple_iterator", data := .fields #[.ref l, .int 0 0] }).objs.size = s.heap.objs.size + 1 := Heap.size_push ..
  show _ ∧ _
  rw [hz]
  have he : IsEnum ((s.heap.push { cls := .type "tuple_iterator", data := .fields #[.ref l, .int 0 0] }).push
      { cls := .type "enumerate", data := .fields #[.none, .bool false, .ref s.heap.objs.size, rawInt 0, .none, .none] }) (s.heap.objs.size + 1) s.heap.objs.size 0 .none := by
    have := Heap.get?_push_size (s.heap.push { cls := .type "tuple_iterator", data := .fields #[.ref l, .int 0 0] })
      (o := { cls := .type "enumerate", data := .fields #[.none, .bool false, .ref s.heap.objs.size, rawInt 0, .none, .none] }) rfl
    rw [hz] at this; exact this
  refine ⟨⟨_, he, rfl⟩, h _ he ⟨_, Heap.get?_push_of_some _ (Heap.get?_push_size _ rfl), rfl, rfl⟩ (by rw [Heap.size_push, hz]) fun b o x => Heap.get?_push_of_some _ (Heap.get?_push_of_some _ x)⟩
end Mine
end
section
open PySem PySem.W PyProof.Rows
namespace Mine
/-- what a for asks of its source: item i, and the tuple let go -/
structure Src (prog : Program) (w : World) (A : Around) (target : PySem.Expr) (I : Addr) (fp wr : List Addr) (n : Nat) (P : Nat → Value → Heap → Prop) (St : Nat → Heap → Prop) : Prop where
  sub : ∀ b ∈ wr, b ∈ fp
  frame : ∀ i h h', St i h → (∀ b ∈ fp, ∀ o, h.get? b = some o → h'.get? b = some o) → St i h'
  item : ∀ i (s : Shared) (Q : Value → Shared → Prop), i < n → St i s.heap →
    (∀ v h' tk, P i v h' → St (i + 1) h' → (∀ b o, b ∉ wr → s.heap.get? b = some o → h'.get? b = some o) → Q v { s with heap := h', toks := tk }) →
    wpAny (model prog w) A (pyNext (.ref I)) (fun r s₁ => match r with
      | none => False
      | some v => wpAny (model prog w) A (letOwnedTupleGo target (.ref I) v) (fun _ s₂ => Q v s₂) NoE s₁) NoE s
  done : ∀ (s : Shared) (Q : Shared → Prop), St n s.heap → (∀ h' tk, (∀ b o, b ∉ wr → s.heap.get? b = some o → h'.get? b = some o) → Q { s with heap := h', toks := tk }) →
    wpAny (model prog w) A (pyNext (.ref I)) (fun r s₁ => match r with | none => Q s₁ | some _ => False) NoE s
/-- a turn's end -/
noncomputable def TurnP (g : Heap) (L : Addr) (wr : List Addr) (own : List (Addr × Obj)) (J : Nat → (Str → Option Value) → List (Addr × Obj) → Prop) (R : Result → Shared → Prop) (s : Shared) (i : Nat) (f : Flow) (s₃ : Shared) : Prop := match f with
  | .next | .cont => ∃ h' tk' m' news', s₃ = { s with heap := h', toks := tk' } ∧ Fr g L h' m' ∧ News g L h' (news' ++ own) ∧ (∀ p ∈ news', p.1 ∉ wr) ∧ J (i + 1) m' news'
  | .brk => R (.ok .next) s₃
  | .ret v => R (.ok (.ret v)) s₃
theorem TurnP.next {g : Heap} {L : Addr} {wr : List Addr} {own news₁ : List (Addr × Obj)} {J : Nat → (Str → Option Value) → List (Addr × Obj) → Prop} {R : Result → Shared → Prop} {s s₃ : Shared} {i : Nat} {h' : Heap} {tk' : Nat} {m' : Str → Option Value}
    (news' : List (Addr × Obj)) (e : s₃ = { s with heap := h', toks := tk' }) (F : Fr g L h' m') (N : News g L h' news₁) (hs : ∀ p ∈ news' ++ own, p ∈ news₁) (hw : ∀ p ∈ news', p.1 ∉ wr) (j : J (i + 1) m' news') : TurnP g L wr own J R s i .next s₃ :=
  ⟨h', tk', m', news', e, F, fun p hp => N p (hs p hp), hw, j⟩
theorem TurnP.brk {g : Heap} {L : Addr} {wr : List Addr} {own : List (Addr × Obj)} {J : Nat → (Str → Option Value) → List (Addr × Obj) → Prop} {R : Result → Shared → Prop} {s s₃ : Shared} {i : Nat} (h : R (.ok .next) s₃) : TurnP g L wr own J R s i .brk s₃ := h
theorem forS {prog : Program} {w : World} {A : Around} {R : Result → Shared → Prop} {s : Shared} {env : Env} {g : Heap} {L : Addr} {target : PySem.Expr} {body orelse : List Stmt} {I : Addr} {fp wr : List Addr} {n : Nat}
    {P : Nat → Value → Heap → Prop} {St : Nat → Heap → Prop} {m : Str → Option Value} {news : List (Addr × Obj)} (W : Src prog w A target I fp wr n P St)
    (J : Nat → (Str → Option Value) → List (Addr × Obj) → Prop)
    (hLf : L ∉ fp) (hwr : ∀ b ∈ wr, g.get? b = none) (hnw : ∀ p ∈ news, p.1 ∉ wr)
    (hst : St 0 s.heap) (F : Fr g L s.heap m) (N : News g L s.heap news) (h0 : J 0 m news)
    (turn : ∀ i v m₁ news₁ h tk own, i < n → P i v h → J i m₁ news₁ → (∀ p ∈ news₁, p.1 ∉ wr) → (∀ p ∈ own, p.1 ∈ fp) → Fr g L h m₁ → News g L h (news₁ ++ own) →
      wpAny (model prog w) A (assign target env v) (fun _ s₂ => wpAny (model prog w) A (execs body env) (TurnP g L wr own J R s i) NoE s₂) NoE { s with heap := h, toks := tk })
    (done : ∀ m₁ news₁ h tk, J n m₁ news₁ → Fr g L h m₁ → News g L h news₁ → wpAny (model prog w) A (execs orelse env) (fun f s₃ => R (.ok f) s₃) NoE { s with heap := h, toks := tk }) :
    codeAny (model prog w) A (.forLoop target (.ref I) body orelse env) R s := by
  have hLw : L ∉ wr := fun h => hLf (W.sub _ h)
  have old : ∀ b o, g.get? b = some o → b ∉ wr := fun b o e hb => by rw [hwr b hb] at e; cases e
  have next : ∀ {h' h₁ : Heap} {m' : Str → Option Value} {news' : List (Addr × Obj)}, Fr g L h' m' → News g L h' news' → (∀ p ∈ news', p.1 ∉ wr) → (∀ b o, b ∉ wr → h'.get? b = some o → h₁.get? b = some o) → Fr g L h₁ m' ∧ News g L h₁ news' :=
    fun F' N' hnw' hk₁ => ⟨⟨F'.ns.at' fun o e => hk₁ _ o hLw e, fun b o e => hk₁ b o (old b o e) (F'.keep b o e), F'.above⟩, fun p hp => ⟨hk₁ _ _ (hnw' p hp) (N' p hp).1, (N' p hp).2⟩⟩
  have main : ∀ k i h tk m₁ news₁, k = n - i → i ≤ n → St i h → Fr g L h m₁ → News g L h news₁ → (∀ p ∈ news₁, p.1 ∉ wr) → J i m₁ news₁ →
      codeAny (model prog w) A (.forLoop target (.ref I) body orelse env) R { s with heap := h, toks := tk } := by
    intro k
    induction k with
    | zero =>
      intro i h tk m₁ news₁ hk hi hst F N hnw hJ
      have : i = n := by omega
      subst this
      refine for_step (wpAny_mono (W.done _ (fun s₁ => wpAny (model prog w) A (execs orelse env) (fun f s₃ => R (.ok f) s₃) NoE s₁) hst fun h' tk' hk' => ?_) (fun r s₁ h₁ => ?_) fun _ _ x => x)
      · obtain ⟨F₁, N₁⟩ := next F N hnw hk'
        exact done m₁ news₁ h' tk' hJ F₁ N₁
      · cases r with
        | none => exact h₁
        | some v => exact h₁.elim
    | succ k ih =>
      intro i h tk m₁ news₁ hk hi hst F N hnw hJ
      have hlt : i < n := by omega
      refine for_step (wpAny_mono (W.item i _ (fun v s₂ => wpAny (model prog w) A (assign target env v) (fun _ s₃ => wpAny (model prog w) A (execs body env) (fun f s₄ => match f with
          | .next | .cont => codeAny (model prog w) A (.forLoop target (.ref I) body orelse env) R s₄
          | .brk => R (.ok .next) s₄
          | .ret v => R (.ok (.ret v)) s₄) NoE s₃) NoE s₂) hlt hst fun v h' tk' hP hst' hk' => ?_) (fun r s₁ h₁ => ?_) fun _ _ x => x)
      · obtain ⟨F₁, N₁⟩ := next F N hnw hk'
        have No : News g L h' (ownOf g fp h') := news_ownOf hLf
        refine wpAny_mono (turn i v m₁ news₁ h' tk' (ownOf g fp h') hlt hP hJ hnw ownOf_sub F₁ (N₁.append No)) (fun _ s₂ h₂ => wpAny_mono h₂ (fun f s₃ h₃ => ?_) fun _ _ x => x) fun _ _ x => x
        have key : (∃ h'' tk'' m' news', s₃ = { s with heap := h'', toks := tk'' } ∧ Fr g L h'' m' ∧ News g L h'' (news' ++ ownOf g fp h') ∧ (∀ p ∈ news', p.1 ∉ wr) ∧ J (i + 1) m' news') → codeAny (model prog w) A (.forLoop target (.ref I) body orelse env) R s₃ := by
          rintro ⟨h'', tk'', m', news', rfl, F', N', hnw', hJ'⟩
          refine ih (i + 1) h'' tk'' m' news' (by omega) hlt ?_ F' (fun p hp => N' p (List.mem_append_left _ hp)) hnw' hJ'
          refine W.frame _ _ _ hst' fun b hb o e => ?_
          cases hn : g.get? b with
          | some o₀ =>
            have h1 := F₁.keep b o₀ hn
            rw [e] at h1
            cases h1
            exact F'.keep b _ hn
          | none => exact (N' _ (List.mem_append_right _ (mem_ownOf hb hn e))).1
        cases f with
        | next => exact key h₃
        | cont => exact key h₃
        | brk => exact h₃
        | ret v => exact h₃
      · cases r with
        | none => exact h₁.elim
        | some v => exact h₁
  exact main n 0 s.heap s.toks m news rfl (Nat.zero_le _) hst F N hnw h0
section
variable {prog : Program} {w : World} {A : Around}
theorem Src.tup {elts : List PySem.Expr} {x1 : Nat} {pos : Pos} (hh : A.handled = none) (I T : Addr) (hne : T ≠ I) (items : Array Value) (hr : ∀ v ∈ items, ∃ a, v = .ref a) :
    Src prog w A (.Tuple elts x1 pos) I [I, T] [I] items.size (fun i v _ => items[i]? = some v) (fun i h => h.IsTupleIter I T i ∧ h.IsTuple T items) where
  sub := fun b hb => by rw [List.mem_singleton.mp hb]; simp
  frame := fun _ _ _ st hk => ⟨st.1.at fun o e => hk I (by simp) o e, st.2.at fun o e => hk T (by simp) o e⟩
  item := fun i s Q hi st hQ => by
    refine wpAny_pyNext_tuple_item st.1 st.2 (x := items[i]) (by simp [hi]) fun h' hit' hs' => ?_
    obtain ⟨a, ha⟩ := hr items[i] (Array.getElem_mem hi)
    show wpAny (model prog w) A (letOwnedTupleGo _ _ items[i]) _ _ _
    rw [ha]
    refine letGo_tupiter hit' ?_
    rw [← ha]
    exact hQ _ h' s.toks (by simp [hi]) ⟨hit', st.2.extBut hs'.extBut hne⟩ fun b o hb e => hs'.extBut b o (fun q => hb (by simp [q])) e
  done := fun s Q st hQ => wpAny_pyNext_tuple_end hh st.1 st.2 (by simp) fun h' he => hQ h' s.toks fun b o hb e => he b o (fun q => hb (by simp [q])) e
theorem Src.list {x : Str} {px : Pos} (hh : A.handled = none) (I l : Addr) (hne : l ≠ I) (items : Array Value) :
    Src prog w A (.Name x px) I [I, l] [I] items.size (fun i v _ => items[i]? = some v) (fun i h => h.IsListIter I l i ∧ h.IsList l items) where
  sub := fun b hb => by rw [List.mem_singleton.mp hb]; simp
  frame := fun _ _ _ st hk => ⟨st.1.at fun o e => hk I (by simp) o e, st.2.at fun o e => hk l (by simp) o e⟩
  item := fun i s Q hi st hQ => by
    refine wpAny_pyNext_list_item st.1 st.2 (x := items[i]) (by simp [hi]) fun h' hit' hs' => letGo_name ?_
    exact hQ _ h' s.toks (by simp [hi]) ⟨hit', st.2.extBut hs'.extBut hne⟩ fun b o hb e => hs'.extBut b o (fun q => hb (by simp [q])) e
  done := fun s Q st hQ => wpAny_pyNext_list_end hh st.1 st.2 (by simp) fun h' he => hQ h' s.toks fun b o hb e => he b o (fun q => hb (by simp [q])) e
theorem Src.listT {elts : List PySem.Expr} {x1 : Nat} {pos : Pos} (hh : A.handled = none) (I l : Addr) (hne : l ≠ I) (items : Array Value) (hr : ∀ v ∈ items, ∃ a, v = .ref a) :
    Src prog w A (.Tuple elts x1 pos) I [I, l] [I] items.size (fun i v _ => items[i]? = some v) (fun i h => h.IsListIter I l i ∧ h.IsList l items) where
  sub := fun b hb => by rw [List.mem_singleton.mp hb]; simp
  frame := fun _ _ _ st hk => ⟨st.1.at fun o e => hk I (by simp) o e, st.2.at fun o e => hk l (by simp) o e⟩
  item := fun i s Q hi st hQ => by
    refine wpAny_pyNext_list_item st.1 st.2 (x := items[i]) (by simp [hi]) fun h' hit' hs' => ?_
    obtain ⟨a, ha⟩ := hr items[i] (Array.getElem_mem hi)
    show wpAny (model prog w) A (letOwnedTupleGo _ _ items[i]) _ _ _
    rw [ha]
    refine wpAny_letOwnedTupleGo_listiter hit' ?_
    rw [← ha]
    exact hQ _ h' s.toks (by simp [hi]) ⟨hit', st.2.extBut hs'.extBut hne⟩ fun b o hb e => hs'.extBut b o (fun q => hb (by simp [q])) e
  done := fun s Q st hQ => wpAny_pyNext_list_end hh st.1 st.2 (by simp) fun h' he => hQ h' s.toks fun b o hb e => he b o (fun q => hb (by simp [q])) e
/-- enumerate over a tuple -/
theorem Src.enumTup {elts : List PySem.Expr} {x1 : Nat} {pos : Pos} (hh : A.handled = none) (e it T : Addr) (hei : e ≠ it) (heT : e ≠ T) (hiT : T ≠ it) (items : Array Value) :
    Src prog w A (.Tuple elts x1 pos) e [e, it, T] [e, it] items.size (fun i v h => ∃ tp t x, v = .ref tp ∧ items[i]? = some x ∧ h.IsTuple tp #[.int i t, x]) (fun i h => (∃ old, IsEnum h e it i old) ∧ h.IsTupleIter it T i ∧ h.IsTuple T items) where
  sub := fun b hb => by rcases List.mem_cons.mp hb with rfl | hb; simp; rw [List.mem_singleton.mp hb]; simp
  frame := fun i h h' st hk => (WalksT.enumerateD (prog := prog) (w := w) (Draws_tuple (A := A.in1) hh it T hiT items) e hei (by simp [hei, heT]) (by simp)).frame i h h' st hk
  item := fun i s Q hi st hQ => by
    have D := WalksT.enumerateD (prog := prog) (w := w) (Draws_tuple (A := A.in1) hh it T hiT items) e hei (by simp [hei, heT]) (by simp)
    refine D.item i s _ _ hi st fun tp vals h' tk hP hge hT hm hk => ?_
    refine D.go _ _ _ i tp _ _ _ hm fun h'' st' hk' => ?_
    obtain ⟨t, x, hx, rfl⟩ := hP
    refine hQ _ h'' tk ⟨tp, t, x, rfl, hx, ?_⟩ st' fun b o hb y => hk' b o hb (hk b o hb y)
    have ha := D.apart _ _ _ hm
    exact hT.at fun o y => hk' tp o ha y
  done := fun s Q st hQ => by
    have D := WalksT.enumerateD (prog := prog) (w := w) (Draws_tuple (A := A.in1) hh it T hiT items) e hei (by simp [hei, heT]) (by simp)
    exact D.done s _ _ st fun h' tk hk => hQ h' tk hk
end
end Mine
namespace Mine
section
variable {α : Type}
/-- a statement's plain end: what the frame's names hold, what stands in the ledger -/
noncomputable def Nx (g : Heap) (L : Addr) (l : α → List (Str × Value)) (news : α → List (Addr × Obj)) (s : Shared) (f : Flow) (s' : Shared) : Prop :=
  f = .next ∧ ∃ a h tk m, s' = { s with heap := h, toks := tk } ∧ Fr g L h (over (l a) m) ∧ News g L h (news a)
theorem Nx.mk {g : Heap} {L : Addr} {l : α → List (Str × Value)} {news : α → List (Addr × Obj)} {s s' : Shared} {h : Heap} {tk : Nat} {m : Str → Option Value} {news' : List (Addr × Obj)} (a : α) (e : s' = { s with heap := h, toks := tk })
    (F : Fr g L h m) (H : Has m (l a)) (N : News g L h news') (hn : ∀ p ∈ news a, p ∈ news') : Nx g L l news s .next s' := ⟨rfl, a, h, tk, m, e, Fr.over F H, fun p hp => N p (hn p hp)⟩
theorem cut {prog : Program} {w : World} {A : Around} {E : Value → Shared → Prop} {s : Shared} {env : Env} {st : Stmt} {rest : List Stmt} {Q : Flow → Shared → Prop} (g : Heap) (L : Addr) (l : α → List (Str × Value)) (news : α → List (Addr × Obj))
    (h1 : wpAny (model prog w) A (exec st env) (Nx g L l news s) NoE s)
    (h2 : ∀ a h tk m, Fr g L h (over (l a) m) → News g L h (news a) → wpAny (model prog w) A (execs rest env) Q E { s with heap := h, toks := tk }) : wpAny (model prog w) A (execs (st :: rest) env) Q E s := by
  refine wpAny_execs_cons (wpAny_mono h1 (fun f s' x => ?_) fun _ _ x => x.elim)
  obtain ⟨rfl, a, h, tk, m, rfl, F, N⟩ := x
  exact h2 a h tk m F N
end
end Mine
namespace Mine
theorem ct_use {w : World} {lvl : Nat} {f : Addr} {args : List Value} {pre : Heap → Prop} {post : Value → Heap → Heap → Prop} (C : Ct w lvl f args pre post)
    {A : Around} {h₀ : Heap} {L : Addr} {s : Shared} {m : Str → Option Value} {news : List (Addr × Obj)} {Q : Value → Shared → Prop} {E : Value → Shared → Prop}
    (h1 : A.handled = none) (h2 : A.depth ≤ lvl) (h3 : A.units ≤ lvl) (F : Fr h₀ L s.heap m) (N : News h₀ L s.heap news) (G : Good w h₀) (hp : pre s.heap)
    (h : ∀ v h' tk', post v s.heap h' → (∀ b o, s.heap.get? b = some o → h'.get? b = some o) → Fr h₀ L h' m → News h₀ L h' news → Q v { s with heap := h', toks := tk' }) : wpAny (model pw w) A (call (.ref f) args) Q E s := by
  refine wpAny_mono (C A s E h1 h2 h3 (G.keeps F.keep) hp) (fun v s' r => ?_) fun _ _ x => x
  obtain ⟨⟨h', tk, rfl, k⟩, p⟩ := r
  exact h v h' tk p k (Fr.kept F k) (News.kept N k)
/-- texts, whatever their tokens -/
inductive Ss : List Value → List Str → Prop
  | nil : Ss [] []
  | cons {c : Str} {t : Tok} {vs cs} : Ss vs cs → Ss (.str c t :: vs) (c :: cs)
theorem Ss.snoc {c : Str} {t : Tok} {vs : List Value} {cs : List Str} (h : Ss vs cs) : Ss (vs ++ [.str c t]) (cs ++ [c]) := by
  induction h with
  | nil => exact .cons .nil
  | cons _ ih => exact .cons ih
theorem Ss.length {vs : List Value} {cs : List Str} (h : Ss vs cs) : vs.length = cs.length := by
  induction h with
  | nil => rfl
  | cons _ ih => simp [ih]
end Mine
namespace Mine
section
variable {prog : Program} {w : World} {A : Around} {E : Value → Shared → Prop} {s : Shared} {env : Env} {g : Heap} {m : Str → Option Value} {news : List (Addr × Obj)} {Q : Unit → Shared → Prop}
theorem asg1 {x : Str} {px : Pos} {v : Value} (F : Fr g env.locals s.heap m) (N : News g env.locals s.heap news) (hx : env.kindOf x = some .local) (hp : (env.scope.kind == .class || (env.scope.kind == .module && env.locals != env.globals)) = false)
    (h : ∀ h' tk', Fr g env.locals h' (fun z => if z = x then some v else m z) → News g env.locals h' news → Q () { s with heap := h', toks := tk' }) : wpAny (model prog w) A (assign (.Name x px) env v) Q E s :=
  wpAny_assign_Name (wpAny_storeName_local hx F.ns (fun h' hn hs => h h' _ (F.set hn hs) (N.set hs)) hp)
theorem asg2 {x y : Str} {px py pos : Pos} {k : Nat} {v1 v2 : Value} {tp : Addr} (hh : A.handled = none) (ht : s.heap.IsTuple tp #[v1, v2]) (F : Fr g env.locals s.heap m) (N : News g env.locals s.heap news)
    (hx : env.kindOf x = some .local) (hy : env.kindOf y = some .local) (hp : (env.scope.kind == .class || (env.scope.kind == .module && env.locals != env.globals)) = false)
    (h : ∀ h' tk', Fr g env.locals h' (fun z => if z = y then some v2 else if z = x then some v1 else m z) → News g env.locals h' news → Q () { s with heap := h', toks := tk' }) :
    wpAny (model prog w) A (assign (.Tuple [.Name x px, .Name y py] k pos) env (.ref tp)) Q E s := by
  refine wpAny_assign_Tuple hh ht rfl rfl fun h₁ he => ?_
  have hk : ∀ b o, s.heap.get? b = some o → h₁.get? b = some o := fun b o e => he b o (Nat.ne_of_lt (Heap.lt_size e)) e
  have F₁ := Fr.kept F hk
  have N₁ := News.kept N hk
  refine assignInOrder_cons (asg1 F₁ N₁ hx hp fun h₂ tk₂ F₂ N₂ => ?_)
  refine assignInOrder_cons (asg1 F₂ N₂ hy hp fun h₃ tk₃ F₃ N₃ => ?_)
  exact assignInOrder_nil (h h₃ tk₃ F₃ N₃)
end
end Mine
namespace Mine
theorem off2 {a b c : Addr} (h1 : a ≠ b) (h2 : a ≠ c) : a ∉ [b, c] := by simp [h1, h2]
theorem off3 {a b c d : Addr} (h1 : a ≠ b) (h2 : a ≠ c) (h3 : a ≠ d) : a ∉ [b, c, d] := by simp [h1, h2, h3]
end Mine
namespace Mine
theorem one_off {a : Addr} {o : Obj} {wr : List Addr} (h : a ∉ wr) : ∀ p ∈ [(a, o)], p.1 ∉ wr := fun p hp => by rw [List.mem_singleton.mp hp]; exact h
theorem two_none {g : Heap} {a b : Addr} (h1 : g.get? a = none) (h2 : g.get? b = none) : ∀ x ∈ [a, b], g.get? x = none := fun x hx => by
  rcases List.mem_cons.mp hx with rfl | hx
  · exact h1
  · rw [List.mem_singleton.mp hx]; exact h2
theorem one_none {g : Heap} {a : Addr} (h1 : g.get? a = none) : ∀ x ∈ [a], g.get? x = none := fun x hx => by rw [List.mem_singleton.mp hx]; exact h1
theorem own_off {own : List (Addr × Obj)} {fp : List Addr} {a : Addr} (h : ∀ p ∈ own, p.1 ∈ fp) (ha : a ∉ fp) : OwnOff own [a] := fun p hp b hb e => by
  rw [List.mem_singleton.mp hb] at e
  exact ha (e ▸ h p hp)
end Mine
end
section
open PySem PySem.W PyProof.Rows
namespace Mine
section
variable {prog : Program} {w : World} {A : Around} {E : Value → Shared → Prop}
theorem draw_l {it l : Addr} {items : Array Value} (hne : l ≠ it) : ∀ (n i : Nat) (s : Shared) (Q : List Value → Shared → Prop), s.heap.IsListIter it l i → s.heap.IsList l items → i + n ≤ items.size →
    (∀ h', h'.IsListIter it l (i + n) → Heap.SameBut it s.heap h' → Q ((items.toList.drop i).take n) { s with heap := h' }) → wpAny (model prog w) A (draw (.ref it) n) Q E s
  | 0, i, s, Q, hit, _, _, hQ => by
    show wpAny _ _ (pure []) Q E s
    exact wpAny_pure (by simpa using hQ s.heap hit (Heap.SameBut.refl ..))
  | n + 1, i, s, Q, hit, ht, hle, hQ => by
    have hlt : i < items.size := by omega
    show wpAny _ _ (pyNext (.ref it) >>= _) Q E s
    refine wpAny_bind (wpAny_pyNext_list_item hit ht (x := items[i]) (by simp [hlt]) fun h₁ hit₁ hs₁ => ?_)
    refine wpAny_bind (wpAny_holding (draw_l hne n (i + 1) _ _ hit₁ (ht.extBut hs₁.extBut hne) (by omega) fun h₂ hit₂ hs₂ => wpAny_pure ?_))
    have hd : items.toList.drop i = items[i] :: items.toList.drop (i + 1) := by simp [List.drop_eq_getElem_cons, hlt]
    have := hQ h₂ (by rw [show i + (n + 1) = i + 1 + n by omega]; exact hit₂) (hs₁.trans hs₂)
    rw [hd, List.take_succ_cons] at this
    exact this
variable {s : Shared}
theorem unpack_l {t : Addr} {items : Array Value} {targets : List (Bool × (Value → Sem Unit))} {Q : Unit → Shared → Prop} (hh : A.handled = none) (ht : s.heap.IsList t items)
    (hn : targets.length = items.size) (hstar : targets.findIdx? (·.1) = none)
    (h : ∀ h', Heap.ExtBut s.heap.objs.size s.heap h' → wpAny (model prog w) A (assignInOrder (targets.map (·.2)) items.toList) Q E { s with heap := h' }) :
    wpAny (model prog w) A (unpack (.ref t) targets) Q E s := by
  have hlt : t ≠ s.heap.objs.size := by obtain ⟨o, ho, _⟩ := ht; exact Nat.ne_of_lt (Heap.lt_size ho)
  unfold unpack
  rw [hn, hstar]
  refine wpAny_bind (wpAny_holding ?_)
  unfold unpackItems
  refine wpAny_bind ?_
  unfold notIterableAtAll
  refine wpAny_bind (wpAny_specialOf ht.typeIs F.slot_list_iter.lookup ?_)
  refine wpAny_pure ?_
  simp only [Bool.false_eq_true, if_false]
  refine wpAny_bind (wpAny_holding (wpAny_pyIter_list ht ?_))
  refine wpAny_bind (wpAny_holding (draw_l hlt items.size 0 _ _ ⟨_, Heap.get?_push_size _ rfl, rfl, rfl⟩ (ht.push _) (by omega) fun h₁ hit₁ hs₁ => ?_))
  have hall : List.take items.size (List.drop 0 items.toList) = items.toList := by
    rw [List.drop_zero]; exact List.take_of_length_le (by simp)
  rw [hall, if_neg (by simp)]
  have ht₁ : h₁.IsList t items := (ht.push _).extBut hs₁.extBut hlt
  refine wpAny_bind (wpAny_holding (wpAny_pyNext_list_end hh hit₁ ht₁ (by simp) fun h₂ he₂ => ?_))
  simp only [Option.isSome_none, Bool.false_eq_true, if_false]
  exact wpAny_pure (h h₂ fun b o hb e => he₂ b o hb (hs₁.extBut b o hb (Heap.get?_push_of_some _ e)))
theorem assign_l {env : Env} {elts : List PySem.Expr} {x1} {pos : Pos} {t : Addr} {items : Array Value} {Q : Unit → Shared → Prop} (hh : A.handled = none) (ht : s.heap.IsList t items)
    (hn : (assignEach elts env).length = items.size) (hstar : (assignEach elts env).findIdx? (·.1) = none)
    (h : ∀ h', Heap.ExtBut s.heap.objs.size s.heap h' → wpAny (model prog w) A (assignInOrder ((assignEach elts env).map (·.2)) items.toList) Q E { s with heap := h' }) :
    wpAny (model prog w) A (assign (.Tuple elts x1 pos) env (.ref t)) Q E s := by
  rw [arm_assign_Tuple]
  exact wpAny_bind (wpAny_standAt (unpack_l hh ht hn hstar h))
variable {env : Env} {g : Heap} {m : Str → Option Value} {news : List (Addr × Obj)} {Q : Unit → Shared → Prop}
theorem asgl2 {x y : Str} {px py pos : Pos} {k : Nat} {v1 v2 : Value} {tp : Addr} (hh : A.handled = none) (ht : s.heap.IsList tp #[v1, v2]) (F : Fr g env.locals s.heap m) (N : News g env.locals s.heap news)
    (hx : env.kindOf x = some .local) (hy : env.kindOf y = some .local) (hp : (env.scope.kind == .class || (env.scope.kind == .module && env.locals != env.globals)) = false)
    (h : ∀ h' tk', Fr g env.locals h' (fun z => if z = y then some v2 else if z = x then some v1 else m z) → News g env.locals h' news → Q () { s with heap := h', toks := tk' }) :
    wpAny (model prog w) A (assign (.Tuple [.Name x px, .Name y py] k pos) env (.ref tp)) Q E s := by
  refine assign_l hh ht rfl rfl fun h₁ he => ?_
  have hk : ∀ b o, s.heap.get? b = some o → h₁.get? b = some o := fun b o e => he b o (Nat.ne_of_lt (Heap.lt_size e)) e
  have F₁ := Fr.kept F hk
  have N₁ := News.kept N hk
  refine assignInOrder_cons (asg1 F₁ N₁ hx hp fun h₂ tk₂ F₂ N₂ => ?_)
  refine assignInOrder_cons (asg1 F₂ N₂ hy hp fun h₃ tk₃ F₃ N₃ => ?_)
  exact assignInOrder_nil (h h₃ tk₃ F₃ N₃)
theorem asgl3 {x y z : Str} {px py pz pos : Pos} {k : Nat} {v1 v2 v3 : Value} {tp : Addr} (hh : A.handled = none) (ht : s.heap.IsList tp #[v1, v2, v3]) (F : Fr g env.locals s.heap m) (N : News g env.locals s.heap news)
    (hx : env.kindOf x = some .local) (hy : env.kindOf y = some .local) (hz : env.kindOf z = some .local) (hp : (env.scope.kind == .class || (env.scope.kind == .module && env.locals != env.globals)) = false)
    (h : ∀ h' tk', Fr g env.locals h' (fun u => if u = z then some v3 else if u = y then some v2 else if u = x then some v1 else m u) → News g env.locals h' news → Q () { s with heap := h', toks := tk' }) :
    wpAny (model prog w) A (assign (.Tuple [.Name x px, .Name y py, .Name z pz] k pos) env (.ref tp)) Q E s := by
  refine assign_l hh ht rfl rfl fun h₁ he => ?_
  have hk : ∀ b o, s.heap.get? b = some o → h₁.get? b = some o := fun b o e => he b o (Nat.ne_of_lt (Heap.lt_size e)) e
  have F₁ := Fr.kept F hk
  have N₁ := News.kept N hk
  refine assignInOrder_cons (asg1 F₁ N₁ hx hp fun h₂ tk₂ F₂ N₂ => ?_)
  refine assignInOrder_cons (asg1 F₂ N₂ hy hp fun h₃ tk₃ F₃ N₃ => ?_)
  refine assignInOrder_cons (asg1 F₃ N₃ hz hp fun h₄ tk₄ F₄ N₄ => ?_)
  exact assignInOrder_nil (h h₄ tk₄ F₄ N₄)
end
end Mine
end
section
open PySem PySem.W PyProof.Rows
namespace Mine
theorem wp_tk {α : Type} {M : Model} {A : Around} {t : Sem α} {Q : α → Shared → Prop} {E : Value → Shared → Prop} {s : Shared} {n : Nat} (hn : n ≤ s.toks) (h : wpAny M A t Q E s) :
    wpAny M A t (fun a s' => n ≤ s'.toks ∧ Q a s') (fun e s' => n ≤ s'.toks ∧ E e s') s := fun Γ p hΓ => Sem.wp_toks M Γ n t _ _ p s hn (h Γ p hΓ)
theorem wp_tk' {α : Type} {M : Model} {A : Around} {t : Sem α} {Q : α → Shared → Prop} {E : Value → Shared → Prop} {s : Shared} (hn : 0 < s.toks) (h : wpAny M A t (fun a s' => 0 < s'.toks → Q a s') E s) : wpAny M A t Q E s :=
  wpAny_mono (wp_tk hn h) (fun _ _ x => x.2 x.1) fun _ _ x => x.2
/-- an expression's plain end -/
noncomputable def Nv {α : Type} (g : Heap) (L : Addr) (m : Str → Option Value) (val : α → Value) (news : α → List (Addr × Obj)) (s : Shared) (v : Value) (s' : Shared) : Prop :=
  ∃ a h tk, v = val a ∧ s' = { s with heap := h, toks := tk } ∧ Fr g L h m ∧ News g L h (news a)
theorem Nv.mk {α : Type} {g : Heap} {L : Addr} {m : Str → Option Value} {val : α → Value} {news : α → List (Addr × Obj)} {s s' : Shared} {h : Heap} {tk : Nat} {news' : List (Addr × Obj)} {v : Value} (a : α) (ev : v = val a) (e : s' = { s with heap := h, toks := tk })
    (F : Fr g L h m) (N : News g L h news') (hn : ∀ p ∈ news a, p ∈ news') : Nv g L m val news s v s' := ⟨a, h, tk, ev, e, F, fun p hp => N p (hn p hp)⟩
theorem ecut {α : Type} {prog : Program} {w : World} {A : Around} {E : Value → Shared → Prop} {s : Shared} {env : Env} {e : PySem.Expr} {Q : Value → Shared → Prop} (g : Heap) (L : Addr) (m : Str → Option Value) (val : α → Value) (news : α → List (Addr × Obj))
    (h1 : wpAny (model prog w) A (eval e env) (Nv g L m val news s) NoE s)
    (h2 : ∀ a h tk, Fr g L h m → News g L h (news a) → Q (val a) { s with heap := h, toks := tk }) : wpAny (model prog w) A (eval e env) Q E s := by
  refine wpAny_mono h1 (fun v s' x => ?_) fun _ _ x => x.elim
  obtain ⟨a, h, tk, rfl, rfl, F, N⟩ := x
  exact h2 a h tk F N
theorem cutp {α : Type} {prog : Program} {w : World} {A : Around} {E : Value → Shared → Prop} {s : Shared} {env : Env} {st : Stmt} {rest : List Stmt} {Q : Flow → Shared → Prop} (g : Heap) (L : Addr) (l : α → List (Str × Value)) (news : α → List (Addr × Obj))
    (htk : 0 < s.toks)
    (h1 : wpAny (model prog w) A (exec st env) (Nx g L l news s) NoE s)
    (h2 : ∀ a h tk m, Fr g L h (over (l a) m) → News g L h (news a) → 0 < tk → wpAny (model prog w) A (execs rest env) Q E { s with heap := h, toks := tk }) : wpAny (model prog w) A (execs (st :: rest) env) Q E s := by
  refine wpAny_execs_cons (wpAny_mono (wp_tk htk h1) (fun f s' x => ?_) fun _ _ x => x.2.elim)
  obtain ⟨htk, rfl, a, h, tk, m, rfl, F, N⟩ := x
  exact h2 a h tk m F N htk
/-- a contract that asks for told tokens -/
noncomputable def Ctp (w : World) (lvl : Nat) (f : Addr) (args : List Value) (post : Value → Heap → Heap → Prop) : Prop :=
  ∀ (A : Around) (s : Shared) (E : Value → Shared → Prop), A.handled = none → A.depth ≤ lvl → A.units ≤ lvl → Good w s.heap → 0 < s.toks →
    wpAny (model pw w) A (call (.ref f) args) (Ret s post) E s
theorem ctp_use {w : World} {lvl : Nat} {f : Addr} {args : List Value} {post : Value → Heap → Heap → Prop} (C : Ctp w lvl f args post)
    {A : Around} {h₀ : Heap} {L : Addr} {s : Shared} {m : Str → Option Value} {news : List (Addr × Obj)} {Q : Value → Shared → Prop} {E : Value → Shared → Prop}
    (h1 : A.handled = none) (h2 : A.depth ≤ lvl) (h3 : A.units ≤ lvl) (F : Fr h₀ L s.heap m) (N : News h₀ L s.heap news) (G : Good w h₀) (hp : 0 < s.toks)
    (h : ∀ v h' tk', post v s.heap h' → (∀ b o, s.heap.get? b = some o → h'.get? b = some o) → Fr h₀ L h' m → News h₀ L h' news → 0 < tk' → Q v { s with heap := h', toks := tk' }) : wpAny (model pw w) A (call (.ref f) args) Q E s := by
  refine wpAny_mono (wp_tk hp (C A s E h1 h2 h3 (G.keeps F.keep) hp)) (fun v s' r => ?_) fun _ _ x => x.2
  obtain ⟨ht, ⟨h', tk, rfl, k⟩, p⟩ := r
  exact h v h' tk p k (Fr.kept F k) (News.kept N k) ht
theorem tx {X Y : Str} {t : Tok} (e : X = Y) : some (Value.str X t) = some (Value.str Y t) := by rw [e]
theorem addp {prog : Program} {w : World} {A : Around} {E : Value → Shared → Prop} {s : Shared} {x y : Str} {t u : Tok} {Q : Value → Shared → Prop} (hs : x.length + y.length ≤ 16777216) (ht : 0 < s.toks)
    (h : ∀ t' k, (x ++ y).length = x.length + y.length → 0 < k → Q (.str (x ++ y) t') { s with toks := k }) : wpAny (model prog w) A (binaryOp .Add (.str x t) (.str y u)) Q E s := by
  refine wp_tk' ht ?_
  refine PySem.W.KXadd.add (K := x.length) (L := y.length) (Nat.le_refl _) (Nat.le_refl _) hs fun t' k _ hk => h t' k (Str.length_append ..) hk
end Mine
namespace Mine
/-- what a reply is read as -/
inductive Rd where
  | word (x : Str)
  | pair (a b : Str)
noncomputable def RdAt (h h' : Heap) (v : Value) : Rd → Prop
  | .word x => ∃ t, v = .str x t
  | .pair a b => ∃ p t1 t2, v = .ref p ∧ h.get? p = none ∧ h'.IsList p #[.str a t1, .str b t2]
end Mine
namespace Mine
theorem rd_pair {h₀ h' : Heap} {L p : Addr} {a b : Str} {t1 t2 : Tok} {n : Nat} {r : List (Addr × Obj)} (N : News h₀ L h' ((p, W.listOf #[.str a t1, .str b t2] n) :: r)) : RdAt h₀ h' (.ref p) (.pair a b) :=
  ⟨p, t1, t2, rfl, (N _ (.head _)).2.2, _, (N _ (.head _)).1, rfl, _, rfl⟩
end Mine
end
section
open PySem PySem.W PyProof.Rows
namespace Mine
/-- a statement cut with its end kept dark -/
theorem cutQ {prog : Program} {w : World} {A : Around} {E : Value → Shared → Prop} {s : Shared} {env : Env} {st : Stmt} {rest : List Stmt} {Q : Flow → Shared → Prop}
    (h : ∀ Q1 : Flow → Shared → Prop, (∀ s', wpAny (model prog w) A (execs rest env) Q E s' → Q1 .next s') → (∀ v s', Q (.ret v) s' → Q1 (.ret v) s') → wpAny (model prog w) A (exec st env) Q1 E s) : wpAny (model prog w) A (execs (st :: rest) env) Q E s := by
  refine wpAny_execs_cons ?_
  refine h _ (fun s' x => x) (fun v s' x => x)
noncomputable def WTurn (g : Heap) (L : Addr) (J : Nat → (Str → Option Value) → List (Addr × Obj) → Prop) (R : Result → Shared → Prop) (s : Shared) (k : Nat) (f : Flow) (s₃ : Shared) : Prop := match f with
  | .next | .cont => ∃ k' h' tk' m' news', k' < k ∧ s₃ = { s with heap := h', toks := tk' } ∧ Fr g L h' m' ∧ News g L h' news' ∧ J k' m' news'
  | .brk => R (.ok .next) s₃
  | .ret v => R (.ok (.ret v)) s₃
theorem WTurn.next {g : Heap} {L : Addr} {J : Nat → (Str → Option Value) → List (Addr × Obj) → Prop} {R : Result → Shared → Prop} {s s₃ : Shared} {k : Nat} {h' : Heap} {tk' : Nat} {m' : Str → Option Value} {news' : List (Addr × Obj)}
    (k' : Nat) (hk : k' < k) (e : s₃ = { s with heap := h', toks := tk' }) (F : Fr g L h' m') (N : News g L h' news') (j : J k' m' news') : WTurn g L J R s k .next s₃ := ⟨k', h', tk', m', news', hk, e, F, N, j⟩
noncomputable def WTest {prog : Program} {w : World} {A : Around} (g : Heap) (L : Addr) (J : Nat → (Str → Option Value) → List (Addr × Obj) → Prop) (R : Result → Shared → Prop) (s : Shared) (k : Nat) (body orelse : List Stmt) (env : Env) (b : Bool) (s₂ : Shared) : Prop :=
  if b = true then wpAny (model prog w) A (execs body env) (WTurn g L J R s k) NoE s₂ else wpAny (model prog w) A (execs orelse env) (fun f s₃ => R (.ok f) s₃) NoE s₂
theorem WTest.true {prog : Program} {w : World} {A : Around} {g : Heap} {L : Addr} {J : Nat → (Str → Option Value) → List (Addr × Obj) → Prop} {R : Result → Shared → Prop} {s : Shared} {k : Nat} {body orelse : List Stmt} {env : Env} {s₂ : Shared}
    (h : wpAny (model prog w) A (execs body env) (WTurn g L J R s k) NoE s₂) : WTest (prog := prog) (w := w) (A := A) g L J R s k body orelse env Bool.true s₂ := h
theorem WTest.false {prog : Program} {w : World} {A : Around} {g : Heap} {L : Addr} {J : Nat → (Str → Option Value) → List (Addr × Obj) → Prop} {R : Result → Shared → Prop} {s : Shared} {k : Nat} {body orelse : List Stmt} {env : Env} {s₂ : Shared}
    (h : wpAny (model prog w) A (execs orelse env) (fun f s₃ => R (.ok f) s₃) NoE s₂) : WTest (prog := prog) (w := w) (A := A) g L J R s k body orelse env Bool.false s₂ := h
theorem whileS {prog : Program} {w : World} {A : Around} {R : Result → Shared → Prop} {s : Shared} {env : Env} {g : Heap} {L : Addr} {test : PySem.Expr} {body orelse : List Stmt}
    {m : Str → Option Value} {news : List (Addr × Obj)} (J : Nat → (Str → Option Value) → List (Addr × Obj) → Prop) (k : Nat)
    (F : Fr g L s.heap m) (N : News g L s.heap news) (h0 : J k m news)
    (turn : ∀ k m₁ news₁ h tk, J k m₁ news₁ → Fr g L h m₁ → News g L h news₁ →
      wpAny (model prog w) A (isTrue test env (eval test env)) (WTest (prog := prog) (w := w) (A := A) g L J R s k body orelse env) NoE { s with heap := h, toks := tk }) :
    codeAny (model prog w) A (.whileLoop test body orelse env) R s := by
  have main : ∀ k h tk m news, Fr g L h m → News g L h news → J k m news → codeAny (model prog w) A (.whileLoop test body orelse env) R { s with heap := h, toks := tk } := by
    intro k
    induction k using Nat.strongRecOn with
    | ind k ih =>
      intro h tk m news F N j
      refine while_step (wpAny_mono (turn k m news h tk j F N) (fun b s₂ h₂ => ?_) fun _ _ x => x)
      cases b with
      | false =>
        rw [if_neg Bool.false_ne_true]
        exact h₂
      | true =>
        rw [if_pos rfl]
        refine wpAny_mono (show wpAny (model prog w) A (execs body env) (WTurn g L J R s k) NoE s₂ from h₂) (fun f s₃ h₃ => ?_) fun _ _ x => x
        have key : (∃ k' h' tk' m' news', k' < k ∧ s₃ = { s with heap := h', toks := tk' } ∧ Fr g L h' m' ∧ News g L h' news' ∧ J k' m' news') → codeAny (model prog w) A (.whileLoop test body orelse env) R s₃ := by
          rintro ⟨k', h', tk', m', news', hk, rfl, F', N', j'⟩
          exact ih k' hk h' tk' m' news' F' N' j'
        cases f with
        | next => exact key h₃
        | cont => exact key h₃
        | brk => exact h₃
        | ret v => exact h₃
  exact main k s.heap s.toks m news F N h0
end Mine
end
section
open PySem PySem.W PyProof.Rows
namespace Mine
noncomputable def Tst (p : Value → Bool) (v : Value) (s₃ : Shared) (ok : Bool) (s₄ : Shared) : Prop := ok = p v ∧ Keeps s₃ s₄
noncomputable def El (FF : Value → Value → Prop) (v : Value) (s₃ : Shared) (y : Value) (s₄ : Shared) : Prop := FF v y ∧ Keeps s₃ s₄
theorem Keeps.fr {h : Heap} {s₃ s₄ : Shared} {tk : Nat} (e : s₄ = { s₃ with heap := h, toks := tk }) (k : ∀ b o, s₃.heap.get? b = some o → h.get? b = some o) : Keeps s₃ s₄ := ⟨h, tk, e, k⟩
section
variable (prog : Program) (w : World) (A : Around) (env : Env) (scope : Scope) (cl : List (Str × Addr)) (x : Str) (ifs : List PySem.Expr) (elt : PySem.Expr) (p : Value → Bool) (FF : Value → Value → Prop) (g : Heap) (L : Addr)
  (m : Str → Option Value) (news : List (Addr × Obj)) (Q : Value → Shared → Prop)
/-- what a list comprehension asks once its source stands -/
noncomputable def CompIt (xv : Value) (s₁ : Shared) : Prop := ∃ (ax : Addr) (items : Array Value), xv = .ref ax ∧ Fr g L s₁.heap m ∧ News g L s₁.heap news ∧ s₁.heap.IsList ax items ∧ items.size ≤ sizeLine ∧
  (∀ (C : Addr) (oC : Obj) (v : Value) (s₃ : Shared) (m₃ : Str → Option Value) (i : Nat), items[i]? = some v → LCg.NsObj oC m₃ → m₃ x = some v → Fr g L s₃.heap m → News g L s₃.heap ((C, oC) :: news) → s₁.toks ≤ s₃.toks →
    wpAny (model prog w) A (forIn ifs true fun c r => if r = true then do let ok ← isTrue c (compEnvC scope cl C env) (eval c (compEnvC scope cl C env)); pure (ForInStep.yield ok) else pure (ForInStep.yield r)) (Tst p v s₃) NoE s₃) ∧
  (∀ (C : Addr) (oC : Obj) (v : Value) (s₃ : Shared) (m₃ : Str → Option Value) (i : Nat), items[i]? = some v → p v = true → LCg.NsObj oC m₃ → m₃ x = some v → Fr g L s₃.heap m → News g L s₃.heap ((C, oC) :: news) → s₁.toks ≤ s₃.toks →
    wpAny (model prog w) A (eval elt (compEnvC scope cl C env)) (El FF v s₃) NoE s₃) ∧
  (∀ D h' tk ys n, News g L h' ((D, W.listOf ys n) :: news) → (∀ b o, s₁.heap.get? b = some o → h'.get? b = some o) → Fr g L h' m → Paired FF (items.toList.filter p) ys.toList → Q (.ref D) { s₁ with heap := h', toks := tk })
end
theorem listCompN {prog : Program} {w : World} {A : Around} {E : Value → Shared → Prop} {s : Shared} {env : Env} {elt iter : PySem.Expr} {x : Str} {px : Pos} {ifs : List PySem.Expr} {scope : Scope} {cl : List (Str × Addr)} {pos : Pos} {Q : Value → Shared → Prop}
    (p : Value → Bool) (FF : Value → Value → Prop) (g : Heap) (L : Addr) (m : Str → Option Value) (news : List (Addr × Obj))
    (hh : A.handled = none) (hclos : closureFor scope env = pure cl) (hcell : ∀ y ∈ scope.names, y.2 ≠ .cell) (hkind : scope.kind = .function)
    (hnames : ∀ y ∈ scope.names, y.2 = .local → scope.names.lookup y.1 = some .local) (hx : scope.names.lookup x = some .local)
    (hs : ∀ x, foldedSetIterable iter env x = pure x)
    (h : wpAny (model prog w) A (eval iter env) (CompIt prog w A env scope cl x ifs elt p FF g L m news Q) E s) :
    wpAny (model prog w) A (eval (.ListComp elt [⟨.Name x px, iter, ifs, 0⟩] scope pos) env) Q E s := by
  refine wpAny_ListComp_free p FF hclos hcell hkind hnames hx (wpAny_mono h (fun xv s₁ h₁ => ?_) fun _ _ e => e) hs
  obtain ⟨ax, items, rfl, F, N, hl, hsz, htests, helt, hQ⟩ := h₁
  have hax : ax < s₁.heap.objs.size := by obtain ⟨_, e, _⟩ := hl; exact Heap.lt_size e
  have notI : ∀ b, b < s₁.heap.objs.size → b ∉ [s₁.heap.objs.size] := fun b hb hm => Nat.lt_irrefl _ (List.mem_singleton.mp hm ▸ hb)
  refine wpAny_pyIter_list hl ?_
  have kp : ∀ {h₃ : Heap}, (∀ b o, b ∉ [s₁.heap.objs.size] → (s₁.heap.push { cls := .type "list_iterator", data := .fields #[.ref ax, .int 0 0] }).get? b = some o → h₃.get? b = some o) → ∀ b o, s₁.heap.get? b = some o → h₃.get? b = some o :=
    fun hold b o e => hold b o (notI b (Heap.lt_size e)) (Heap.get?_push_of_some _ e)
  have gnone : ∀ b : Nat, s₁.heap.objs.size ≤ b → g.get? b = none := fun b hb => by
    cases q : g.get? b with
    | none => rfl
    | some o => exact absurd (Heap.lt_size (F.keep _ _ q)) (Nat.not_lt.mpr hb)
  have hLlt : @LT.lt Nat _ L s₁.heap.objs.size := F.ns.lt
  have mk : ∀ {C : Addr} {h₃ : Heap} {m₃ : Str → Option Value}, (s₁.heap.push { cls := .type "list_iterator", data := .fields #[.ref ax, .int 0 0] }).objs.size ≤ C → h₃.Ns C m₃ → News g L h₃ news → ∃ oC, LCg.NsObj oC m₃ ∧ News g L h₃ ((C, oC) :: news) := fun {C h₃ m₃} hC hn N₃ => by
    obtain ⟨oC, ho, hN⟩ := LCg.ns_obj hn
    rw [Heap.size_push] at hC
    refine ⟨oC, hN, fun q hq => ?_⟩
    rcases List.mem_cons.mp hq with rfl | hq
    · refine ⟨ho, ?_, gnone C (by omega)⟩
      show C ≠ L
      exact neN (by omega)
    · exact N₃ q hq
  refine ⟨s₁.heap.objs.size, [s₁.heap.objs.size, ax], [s₁.heap.objs.size], items.size, (fun i v => items[i]? = some v), _, rfl, Walks.list hh s₁.heap.objs.size ax (Nat.ne_of_lt hax) items, hsz,
    ⟨⟨_, Heap.get?_push_size _ rfl, rfl, rfl⟩, hl.push _⟩, ?_, ⟨?_, ?_⟩, ?_⟩
  · intro b hb
    show b < (s₁.heap.push _).objs.size
    rw [Heap.size_push]
    rcases List.mem_cons.mp hb with rfl | hb
    · exact Nat.lt_succ_self _
    · rw [List.mem_singleton.mp hb]; exact Nat.lt_succ_of_lt hax
  · intro C i v s₃ m₃ E' hC hP hn hm hold htk
    have k := kp hold
    obtain ⟨oC, hN, N₃⟩ := mk hC hn (News.kept N k)
    exact wpAny_mono (htests C oC v s₃ m₃ i hP hN hm (Fr.kept F k) N₃ htk) (fun _ _ q => q) fun _ _ e => e.elim
  · intro C i v s₃ m₃ E' hC hP hp hn hm hold htk
    have k := kp hold
    obtain ⟨oC, hN, N₃⟩ := mk hC hn (News.kept N k)
    exact wpAny_mono (helt C oC v s₃ m₃ i hP hp hN hm (Fr.kept F k) N₃ htk) (fun _ _ q => q) fun _ _ e => e.elim
  · intro D h' tk ys vs hnew hlD hpl hlen hP hF hk
    rw [list_of_places hlen hP] at hF
    obtain ⟨n, hn⟩ := hpl
    have k := kp hk
    have hD : s₁.heap.get? D = none := by
      cases q : s₁.heap.get? D with
      | none => rfl
      | some o => rw [Heap.get?_push_of_some _ q] at hnew; cases hnew
    refine hQ D h' tk ys n (fun q hq => ?_) k (Fr.kept F k) hF
    rcases List.mem_cons.mp hq with rfl | hq
    · refine ⟨hn, fun e => ?_, ?_⟩
      · obtain ⟨oL, _, _, hL, _⟩ := F.ns
        rw [show D = L from e, hL] at hD
        cases hD
      · cases q : g.get? D with
        | none => rfl
        | some o => rw [F.keep _ _ q] at hD; cases hD
    · exact News.kept N k q hq
end Mine
namespace Mine
theorem nameGB {M : Model} {A : Around} {E : Value → Shared → Prop} {s : Shared} {h₀ : Heap} {L : Addr} {m : Str → Option Value} {env : Env} {K : Frag} {mg mb : Str → Option Value} {p : Program} {loose : List Str} {x : Str} {pos : Pos} {v : Value} {Q : Value → Shared → Prop} (F : Fr h₀ L s.heap m) (X : K.In h₀) (T : TopRead p loose mg mb h₀)
    (e : nsIn K mainGlobals x = some none) (hv : bootBuiltins x = some v) (hn : x ≠ "__name__") (h : Q v s) (hg : env.globals = mainGlobals) (hb : env.builtins = builtinsNs) (hk : env.scope.kind = .function) (hx : env.kindOf x = some .globalImplicit) (hd : (x == ("__debug__" : Str)) = false) :
    wpAny M A (eval (.Name x pos) env) Q E s :=
  Calls.Name_function_global hk hx (Calls.loadGlobal_builtin (env := env) (by rw [hg]; exact T.g.keeps F.keep) (mg_none_of X T.g e) (by rw [hb]; exact T.b.keeps F.keep) ((T.builtins x hn).trans hv) h) hd
end Mine
namespace Mine
/-- a new object is handed back -/
noncomputable def NewO (φ : Obj → Prop) (v : Value) (h h' : Heap) : Prop := ∃ D o, v = .ref D ∧ h.get? D = none ∧ h'.get? D = some o ∧ φ o
theorem ctD_use {w : World} {lvl : Nat} {f : Addr} {args : List Value} {pre : Heap → Prop} {φ : Obj → Prop} (C : Ct w lvl f args pre (NewO φ))
    {A : Around} {h₀ : Heap} {L : Addr} {s : Shared} {m : Str → Option Value} {news : List (Addr × Obj)} {Q : Value → Shared → Prop} {E : Value → Shared → Prop}
    (h1 : A.handled = none) (h2 : A.depth ≤ lvl) (h3 : A.units ≤ lvl) (F : Fr h₀ L s.heap m) (N : News h₀ L s.heap news) (G : Good w h₀) (hp : pre s.heap)
    (h : ∀ D o h' tk', φ o → (∀ b o, s.heap.get? b = some o → h'.get? b = some o) → Fr h₀ L h' m → News h₀ L h' ((D, o) :: news) → (∀ p ∈ news, p.1 ≠ D) → Q (.ref D) { s with heap := h', toks := tk' }) : wpAny (model pw w) A (call (.ref f) args) Q E s := by
  refine ct_use C h1 h2 h3 F N G hp fun v h' tk' hv k F' N' => ?_
  obtain ⟨D, o, rfl, hn, ho, hφ⟩ := hv
  exact h D o h' tk' hφ k F' (news_new F N' hn ho) fun p hp e => by rw [← e, (N p hp).1] at hn; cases hn
end Mine
namespace Mine
theorem Src.alive {prog : Program} {w : World} {A : Around} {target : PySem.Expr} {I : Addr} {fp wr : List Addr} {n : Nat} {P : Nat → Value → Heap → Prop} {St : Nat → Heap → Prop} (W : Src prog w A target I fp wr n P St) (hI : ∀ i h, St i h → ∃ o, h.get? I = some o) :
    Src prog w A target I fp wr n (fun i v h => P i v h ∧ ∃ o, h.get? I = some o) St where
  sub := W.sub
  frame := W.frame
  item := fun i s Q hi st hQ => W.item i s Q hi st fun v h' tk hP st' hk => hQ v h' tk ⟨hP, hI _ _ st'⟩ st' hk
  done := W.done
theorem listIter_alive {I l : Addr} {items : Array Value} : ∀ (i : Nat) (h : Heap), (h.IsListIter I l i ∧ h.IsList l items) → ∃ o, h.get? I = some o := fun _ _ ⟨⟨o, ho, _⟩, _⟩ => ⟨o, ho⟩
theorem news_more {g h : Heap} {L b : Addr} {o : Obj} {news : List (Addr × Obj)} (N : News g L h news) (hb : h.get? b = some o) (hn : g.get? b = none) (hL : b ≠ L) : News g L h ((b, o) :: news) := fun p hp => by
  rcases List.mem_cons.mp hp with rfl | hp
  · exact ⟨hb, hL, hn⟩
  · exact N p hp
end Mine
end
example : True := by first | walk1 | trivial
section
open PySem PySem.W PyProof.Rows
namespace Mine
local macro_rules | `(tactic| walk_at "eval Name") => `(tactic| ((with_reducible show wpAny _ _ (eval (Expr.Name _ _) (compEnvC _ _ _ _)) _ _ _); (with_reducible rename Fr _ _ _ _ => kF); k_dflt (refine' nameGB kF ?k1 ?k2 ?k3 ?k8 ?k9 ?_ ?k4 ?k10 ?k5 ?k6 ?k7; (case k4 => rfl); (case k10 => rfl); (case k5 => rfl); (case k6 => rfl); (case k7 => decide); (case k1 => k_asm); (case k2 => k_asm); (case k3 => k_is); (case k8 => boot_by_name); (case k9 => decide); k_whole)))
theorem kindsN {names : List (Str × NameKind)} {cs : List (Str × Addr)} {binds : List (Str × Value)} (h : (binds.all fun x => names.lookup x.1 == some .local || (names.lookup x.1 == some .cell && (cs.lookup x.1).isSome)) = true) :
    ∀ x ∈ binds, names.lookup x.1 = some .local ∨ (names.lookup x.1 = some .cell ∧ (cs.lookup x.1).isSome = true) := fun x hx => by
  have := List.all_eq_true.mp h x hx
  rcases Bool.or_eq_true _ _ ▸ this with h1 | h1
  · exact .inl (eq_of_beq h1)
  · have := Bool.and_eq_true _ _ ▸ h1
    exact .inr ⟨eq_of_beq this.1, this.2⟩
/-- counts, whatever their tokens -/
inductive Nats : List Value → List Nat → Prop
  | nil : Nats [] []
  | cons {n : Nat} {t : Tok} {vs ns} : Nats vs ns → Nats (.int n t :: vs) (n :: ns)
noncomputable def stOk (x so : Str) (barred : Bool) (n : Nat) : Bool := decide (n < x.length) && (Txt.contains so (Txt.item x (n : Int)) != barred)
noncomputable def stepN (x so : Str) (barred : Bool) (ns : List Nat) : List Nat := (ns.filter (stOk x so barred)).map (· + 1)
noncomputable def stP (x so : Str) (barred : Bool) : Value → Bool
  | .int a _ => decide (a < x.length) && (Txt.contains so (Txt.item x a) != barred)
  | _ => false
noncomputable def stF (v y : Value) : Prop := ∃ a t u, v = Value.int a t ∧ y = Value.int (a + 1) u
theorem Nats.at {vs ns} (h : Nats vs ns) : ∀ (i : Nat) (v : Value), vs[i]? = some v → ∃ (n : Nat) (t : Tok), v = .int n t ∧ ns[i]? = some n := by
  induction h with
  | nil => intro i v hv; cases hv
  | cons _ ih =>
    intro i v hv
    cases i with
    | zero => cases hv; exact ⟨_, _, rfl, rfl⟩
    | succ i => exact ih i v hv
theorem Nats.length {vs ns} (h : Nats vs ns) : vs.length = ns.length := by
  induction h with
  | nil => rfl
  | cons _ ih => simp [ih]
theorem stP_true {x so : Str} {barred : Bool} {a : Int} {t : Tok} (h1 : a < x.length) (h2 : ((!(Builtin.Str.occurrences so (Txt.item x a) 0 so.length 1).isEmpty) != barred) = true) : true = stP x so barred (.int a t) := by
  show true = (decide (a < x.length) && (Txt.contains so (Txt.item x a) != barred))
  rw [decide_eq_true h1, show (Txt.contains so (Txt.item x a) != barred) = true from h2]
  rfl
theorem stP_false {x so : Str} {barred : Bool} {a : Int} {t : Tok} (h2 : ((!(Builtin.Str.occurrences so (Txt.item x a) 0 so.length 1).isEmpty) != barred) = false) : false = stP x so barred (.int a t) := by
  show false = (decide (a < x.length) && (Txt.contains so (Txt.item x a) != barred))
  rw [show (Txt.contains so (Txt.item x a) != barred) = false from h2, Bool.and_false]
theorem stP_out {x so : Str} {barred : Bool} {a : Int} {t : Tok} (h1 : ¬ a < x.length) : false = stP x so barred (.int a t) := by
  show false = (decide (a < x.length) && (Txt.contains so (Txt.item x a) != barred))
  rw [decide_eq_false h1, Bool.false_and]
theorem stP_ok {x so : Str} {barred : Bool} {n : Nat} {t : Tok} : stP x so barred (.int n t) = stOk x so barred n := by
  show (decide ((n : Int) < x.length) && _) = (decide (n < x.length) && _)
  rw [show decide ((n : Int) < (x.length : Int)) = decide (n < x.length) from decide_eq_decide.mpr (by omega)]
theorem nats_step {x so : Str} {barred : Bool} {vs ns} (h : Nats vs ns) : ∀ {ys : List Value}, Paired stF (vs.filter (stP x so barred)) ys → Nats ys (stepN x so barred ns) := by
  induction h with
  | nil => intro ys hp; cases hp; exact .nil
  | @cons n t vs ns _ ih =>
    intro ys hp
    unfold stepN
    rw [List.filter_cons, stP_ok] at hp
    rw [List.filter_cons]
    by_cases q : stOk x so barred n = true
    · rw [if_pos q] at hp ⊢
      cases hp with
      | cons hf hr =>
        obtain ⟨a, t', u, e, rfl⟩ := hf
        cases e
        exact .cons (n := n + 1) (ih hr)
    · rw [if_neg q] at hp ⊢
      exact ih hp
theorem Nats.ints {vs ns} (h : Nats vs ns) : IntsAre vs (ns.map fun n : Nat => (n : Int)) := by
  induction h with
  | nil => exact .nil
  | @cons n t vs ns _ ih => exact .cons (n : Int) t ih
theorem Nats.of_ints : ∀ {vs : List Value} {ns : List Nat}, IntsAre vs (ns.map fun n : Nat => (n : Int)) → Nats vs ns
  | _, [], h => by cases h; exact .nil
  | _, n :: r, h => by
    cases h with
    | cons _ t hr => exact .cons (Nats.of_ints hr)
set_option maxHeartbeats 2000000 in
theorem st_ct {w : World} {x so : Str} {t1 t2 : Tok} {pl : Addr} {vs : List Value} {ns : List Nat} {barred : Bool} (hlen : x.length ≤ 1000) (hso : so.length ≤ 1000) (hns : Nats vs ns) (hnl : ns.length ≤ 2000) : Ct w 670 151 [.str x t1, .ref pl, .str so t2, .bool barred] (fun h => h.IsList pl vs.toArray)
    (NewO fun o => ∃ vs' n, o = W.listOf vs'.toArray n ∧ Nats vs' (stepN x so barred ns)) := by
  intro A s E h1 hd hu G hpre
  refine wp_up h1 hd hu ?_
  clear h1 hd hu A
  have X := G.X
  obtain ⟨p, loose, mg, mb, T⟩ := G.T
  refine wpAny_call ?_
  k_dflt (refine' call_cellsN_ret (binds := [(PySem.Str.ofString "text", .str x t1), (PySem.Str.ofString "places", .ref pl), (PySem.Str.ofString "some", .str so t2), (PySem.Str.ofString "barred", .bool barred)]) ?k8 ?ho ?hd ?hl ?hcd ?hb ?hloc ?hnd ?_ ?c1 ?c2 ?c3; (case ho => exact X 151 _ (by k_is)); (case hd => exact rfl); (case k8 => exact Nat.le_of_ble_eq_true rfl); (case hl => exact T.nolimit); (case hcd => exact codeRec_of X (by k_is)); (case hb => exact rfl); (case hloc => exact kindsN rfl); (case hnd => decide +kernel); (case c1 => exact rfl); (case c2 => exact rfl); (case c3 => exact rfl); k_whole)
  intro h₁ tk0 cells F N Y
  have l0 : s.heap.objs.size ≤ s.heap.objs.size := Nat.le_refl _
  generalize s.heap.objs.size = L at F N Y ⊢
  k_cells Y
  (try simp only [List.cons_append, List.nil_append] at N)
  (try dsimp only)
  (try k_fold)
  rename_i o1 o2 o3 d1 d2 d3
  replace d1 : o1.data = .cell (some (.bool barred)) := d1
  replace d2 : o2.data = .cell (some (.str so t2)) := d2
  replace d3 : o3.data = .cell (some (.str x t1)) := d3
  replace F := Fr.over (l := [(Str.ofString "places", .ref pl)]) F ⟨rfl, trivial⟩
  generalize bindL _ _ _ = m0 at F
  refine wpAny_execs_cons (wpAny_Return_some ?_)
  refine listCompN (stP x so barred) stF s.heap L (over [(Str.ofString "places", .ref pl)] m0) [(L + 1 + 1 + 1, o1), (L + 1 + 1, o2), (L + 1, o3)] rfl rfl (by decide) rfl (by decide) rfl (fun _ => rfl) ?_
  k_steps
  refine ⟨pl, vs.toArray, rfl, F, N, hpre.at fun o e => F.keep _ o e, by rw [sizeLine_eq, List.size_toArray, hns.length]; omega, ?_, ?_, ?_⟩
  · intro C oC v s₃ m₃ i hv hC hm F3 N3 _
    obtain ⟨n, t, rfl, hn⟩ := hns.at i v (by simpa using hv)
    clear F N
    k_steps
    · rename_i h1 h2 h3
      refine ⟨?_, Keeps.fr rfl fun _ _ e => e⟩
      exact stP_true h1 h3
    · rename_i h1 h2 h3
      refine ⟨?_, Keeps.fr rfl fun _ _ e => e⟩
      exact stP_false h3
    · exact ⟨stP_out (by assumption), Keeps.fr rfl fun _ _ e => e⟩
  · intro C oC v s₃ m₃ i hv hp hC hm F3 N3 _
    obtain ⟨n, t, rfl, hn⟩ := hns.at i v (by simpa using hv)
    clear F N
    k_steps
    exact ⟨⟨n, t, _, rfl, rfl⟩, Keeps.fr rfl fun _ _ e => e⟩
  · intro D h' tk ys n N' k F' hPd
    show Ret _ _ _ _
    exact Ret.mk F' rfl ⟨D, _, rfl, (N' _ (.head _)).2.2, (N' _ (.head _)).1, ys.toList, n, rfl, nats_step hns (by simpa using hPd)⟩
end Mine
end
example : True := by first | walk1 | trivial
section
open PySem PySem.W PyProof.Rows
namespace Mine
theorem st_use {w : World} {x so : Str} {t1 t2 : Tok} {pl : Addr} {vs : List Value} {ns : List Nat} {barred : Bool} {A : Around} {h₀ : Heap} {L : Addr} {s : Shared} {m : Str → Option Value} {news : List (Addr × Obj)} {Q : Value → Shared → Prop} {E : Value → Shared → Prop} (hlen : x.length ≤ 1000) (hso : so.length ≤ 1000) (hns : Nats vs ns) (hnl : ns.length ≤ 2000)
    (h1 : A.handled = none) (h2 : A.depth ≤ 670) (h3 : A.units ≤ 670) (F : Fr h₀ L s.heap m) (N : News h₀ L s.heap news) (G : Good w h₀) (hp : s.heap.IsList pl vs.toArray)
    (h : ∀ D h' tk' vs' n', Nats vs' (stepN x so barred ns) → Fr h₀ L h' m → News h₀ L h' ((D, W.listOf vs'.toArray n') :: news) → (∀ p ∈ news, p.1 ≠ D) → Q (.ref D) { s with heap := h', toks := tk' }) : wpAny (model pw w) A (call (.ref 151) [.str x t1, .ref pl, .str so t2, .bool barred]) Q E s :=
  ctD_use (st_ct hlen hso hns hnl) h1 h2 h3 F N G hp fun D o h' tk' ho _ F' N' ne => by obtain ⟨vs', n', rfl, hn⟩ := ho; exact h D h' tk' vs' n' hn F' N' ne
local macro_rules | `(tactic| walk_at "z") => `(tactic| first | assumption | rfl | exact Nat.le_of_ble_eq_true rfl | is_list | (intro _; intros; try dsimp only))
local macro_rules | `(tactic| walk_at "call ref") => `(tactic| ((apply st_use <;> walk_at "z"); try k_fold))
structure Item where
  kind : Str
  some : Str
  barred : Bool
/-- the items as they lie -/
inductive Items (h : Heap) : List Value → List Item → Prop
  | nil : Items h [] []
  | cons {a : Addr} {t1 t2 : Tok} {i : Item} {vs is} : h.IsList a #[.str i.kind t1, .str i.some t2, .bool i.barred] → i.kind.length ≤ 1000 → i.some.length ≤ 1000 → Items h vs is → Items h (.ref a :: vs) (i :: is)
theorem Items.at {h : Heap} {vs is} (r : Items h vs is) : ∀ (k : Nat) (v : Value), vs[k]? = some v → ∃ a i t1 t2, v = .ref a ∧ is[k]? = some i ∧ h.IsList a #[.str i.kind t1, .str i.some t2, .bool i.barred] ∧ i.kind.length ≤ 1000 ∧ i.some.length ≤ 1000 := by
  induction r with
  | nil => intro k v hv; cases hv
  | cons h1 h2 h3 _ ih =>
    intro k v hv
    cases k with
    | zero => cases hv; exact ⟨_, _, _, _, rfl, rfl, h1, h2, h3⟩
    | succ k => exact ih k v hv
theorem Items.refs {h : Heap} {vs is} (r : Items h vs is) : ∀ v ∈ vs, ∃ a, v = .ref a := by
  induction r with
  | nil => intro v hv; cases hv
  | cons _ _ _ _ ih => intro v hv; rcases List.mem_cons.mp hv with rfl | hv; exact ⟨_, rfl⟩; exact ih v hv
theorem Items.length {h : Heap} {vs is} (r : Items h vs is) : vs.length = is.length := by
  induction r with
  | nil => rfl
  | cons _ _ _ _ ih => simp [ih]
noncomputable def meTurn (x : Str) (i : Item) (ps : List Nat) : List Nat := match ps with
  | [] => []
  | a :: r => if (i.kind == Str.ofString "*") = true then (List.range (x.length + 1 - a)).map (a + ·) else stepN x (if (i.kind == Str.ofString "?") = true then Str.ofString "" else i.some) i.barred (a :: r)
noncomputable def mePlaces (x : Str) (is : List Item) : List Nat := is.foldl (fun ps i => meTurn x i ps) [0]
theorem stepN_le {x so : Str} {b : Bool} {ns : List Nat} : (∀ n ∈ stepN x so b ns, n ≤ x.length) ∧ (stepN x so b ns).length ≤ ns.length := by
  refine ⟨fun n hn => ?_, ?_⟩
  · obtain ⟨k, hk, rfl⟩ := List.mem_map.mp hn
    have := (List.mem_filter.mp hk).2
    have h1 := (Bool.and_eq_true _ _ ▸ this).1
    have := of_decide_eq_true h1
    omega
  · unfold stepN
    rw [List.length_map]
    exact List.length_filter_le _ _
theorem meTurn_le {x : Str} {i : Item} {ps : List Nat} (hx : x.length ≤ 1000) (h : ∀ n ∈ ps, n ≤ x.length) (hl : ps.length ≤ 1001) : (∀ n ∈ meTurn x i ps, n ≤ x.length) ∧ (meTurn x i ps).length ≤ 1001 := by
  cases ps with
  | nil =>
    refine And.intro ?_ (Nat.zero_le _)
    intro n hn
    cases hn
  | cons a r =>
    show (∀ n ∈ (if (i.kind == Str.ofString "*") = true then (List.range (x.length + 1 - a)).map (a + ·) else stepN x (if (i.kind == Str.ofString "?") = true then Str.ofString "" else i.some) i.barred (a :: r)), n ≤ x.length) ∧
      (if (i.kind == Str.ofString "*") = true then (List.range (x.length + 1 - a)).map (a + ·) else stepN x (if (i.kind == Str.ofString "?") = true then Str.ofString "" else i.some) i.barred (a :: r)).length ≤ 1001
    split
    · refine ⟨fun n hn => ?_, ?_⟩
      · obtain ⟨k, hk, rfl⟩ := List.mem_map.mp hn
        have := List.mem_range.mp hk
        show a + k ≤ x.length
        omega
      · rw [List.length_map, List.length_range]; omega
    · exact ⟨stepN_le.1, Nat.le_trans stepN_le.2 hl⟩
theorem mePlaces_le {x : Str} (hx : x.length ≤ 1000) (is : List Item) : (∀ n ∈ mePlaces x is, n ≤ x.length) ∧ (mePlaces x is).length ≤ 1001 := by
  have key : ∀ (is : List Item) (ps : List Nat), (∀ n ∈ ps, n ≤ x.length) → ps.length ≤ 1001 → (∀ n ∈ is.foldl (fun ps i => meTurn x i ps) ps, n ≤ x.length) ∧ (is.foldl (fun ps i => meTurn x i ps) ps).length ≤ 1001 := by
    intro is
    induction is with
    | nil => intro ps h hl; exact ⟨h, hl⟩
    | cons i r ih => intro ps h hl; exact ih _ (meTurn_le hx h hl).1 (meTurn_le hx h hl).2
  exact key is [0] (fun n hn => by rw [List.mem_singleton.mp hn]; exact Nat.zero_le _) (Nat.le_of_ble_eq_true rfl)
theorem mePlaces_next {x : Str} {is : List Item} {i : Nat} {it : Item} (h : is[i]? = some it) : mePlaces x (is.take (i + 1)) = meTurn x it (mePlaces x (is.take i)) := by
  unfold mePlaces
  rw [List.take_add_one, h, List.foldl_append]
  rfl
theorem nats_range {us : List Value} {a n : Nat} (h : IntsAre us (rangeKs (a : Int) n)) : Nats us ((List.range n).map (a + ·)) := by
  refine Nats.of_ints ?_
  rw [List.map_map]
  exact h
theorem any_cast (k : Nat) : ∀ ms : List Nat, ((List.map (fun n : Nat => (n : Int)) ms).any fun y => y == (k : Int)) = ms.contains k
  | [] => rfl
  | m :: r => by
    rw [List.map_cons, List.any_cons, any_cast k r, List.contains_cons]
    congr 1
    rw [Bool.eq_iff_iff, beq_iff_eq, beq_iff_eq]
    omega
theorem sub3 {D : Addr × Obj} {a b c : Addr × Obj} {own : List (Addr × Obj)} : ∀ p ∈ [D] ++ own, p ∈ D :: a :: b :: c :: own := fun p hp => by
  rcases List.mem_append.mp hp with hp | hp
  · rw [List.mem_singleton.mp hp]; simp
  · simp [hp]
theorem ne_off {D I : Addr} {o' oI : Obj} {news : List (Addr × Obj)} (h : ∀ p ∈ news, p.1 ≠ D) (hm : (I, oI) ∈ news) : ∀ p ∈ [(D, o')], p.1 ∉ [I] := one_off fun e => h _ hm (List.mem_singleton.mp e).symm
theorem me_step1 {x : Str} {it : Item} {z : Nat} {ns : List Nat} {vs : List Value} (h1 : (it.kind == Str.ofString "*") = false) (h2 : (it.kind == Str.ofString "?") = true) (h : Nats vs (stepN x (Str.ofString "") it.barred (z :: ns))) : Nats vs (meTurn x it (z :: ns)) := by
  show Nats vs (if (it.kind == Str.ofString "*") = true then _ else stepN x (if (it.kind == Str.ofString "?") = true then _ else _) it.barred (z :: ns))
  rw [if_neg (by rw [h1]; exact Bool.false_ne_true), if_pos h2]
  exact h
theorem me_step2 {x : Str} {it : Item} {z : Nat} {ns : List Nat} {vs : List Value} (h1 : (it.kind == Str.ofString "*") = false) (h2 : (it.kind == Str.ofString "?") = false) (h : Nats vs (stepN x it.some it.barred (z :: ns))) : Nats vs (meTurn x it (z :: ns)) := by
  show Nats vs (if (it.kind == Str.ofString "*") = true then _ else stepN x (if (it.kind == Str.ofString "?") = true then _ else _) it.barred (z :: ns))
  rw [if_neg (by rw [h1]; exact Bool.false_ne_true), if_neg (by rw [h2]; exact Bool.false_ne_true)]
  exact h
local macro_rules | `(tactic| walk_at "execs cons") => `(tactic| (refine wpAny_execs_cons ?_; try k_fold))
set_option maxHeartbeats 2000000 in
theorem me_ct {w : World} {x : Str} {t1 : Tok} {il : Addr} {vs : List Value} {is : List Item} (hlen : x.length ≤ 1000) (hil : is.length ≤ 100) : Ct w 660 158 [.ref il, .str x t1] (fun h => h.IsList il vs.toArray ∧ Items h vs is)
    (fun v h h' => v = .bool ((mePlaces x is).contains x.length)) := by
  intro A s E h1 hd hu G hpre
  refine wp_up h1 hd hu ?_
  clear h1 hd hu A
  have X := G.X
  obtain ⟨p, loose, mg, mb, T⟩ := G.T
  refine wpAny_call ?_
  k_dflt (refine' call_plain_ret (binds := [(PySem.Str.ofString "items", .ref il), (PySem.Str.ofString "text", .str x t1)]) ?k8 ?ho ?hd ?hl ?hcd ?hb ?hloc ?_ ?c1 ?c2 ?c3 ?c4; (case ho => exact X 158 _ (by k_is)); (case hd => exact rfl); (case k8 => exact Nat.le_of_ble_eq_true rfl); (case hl => exact T.nolimit); (case hcd => exact codeRec_of X (by k_is)); (case hb => exact rfl); (case hloc => exact locs rfl); (case c1 => exact rfl); (case c2 => exact rfl); (case c3 => exact rfl); (case c4 => decide); k_whole)
  intro h₁ F
  have N := news0 (h₀ := s.heap) (h := h₁) (L := s.heap.objs.size)
  dsimp only
  generalize s.heap.objs.size = L at F N ⊢
  generalize s.toks + _ = tk0
  (try k_fold)
  obtain ⟨hlist, hitems⟩ := hpre
  refine cut (α := Addr × Tok) ?g1 ?L1 ?l1 ?n1 ?h1a ?h1b
  case g1 => exact s.heap
  case L1 => exact L
  case l1 => exact fun a => [(Str.ofString "items", .ref il), (Str.ofString "text", .str x t1), (Str.ofString "places", .ref a.1)]
  case n1 => exact fun a => [(a.1, W.listOf #[.int 0 a.2] 0)]
  · k_steps
    exact Nx.mk (_, _) rfl (by assumption) ⟨rfl, rfl, rfl, trivial⟩ (by assumption) (fun _ h => h)
  rintro ⟨P, tz⟩ h2 tk2 m2 F2 N2
  clear F N
  dsimp only at F2 N2
  refine cut (α := {a : Addr × List Value × Nat // Nats a.2.1 (mePlaces x is)}) ?g2 ?L2 ?l2 ?n2 ?h2a ?h2b
  case g2 => exact s.heap
  case L2 => exact L
  case l2 => exact fun a => [(Str.ofString "text", .str x t1), (Str.ofString "places", .ref a.1.1)]
  case n2 => exact fun a => [(a.1.1, W.listOf a.1.2.1.toArray a.1.2.2)]
  · refine wpAny_For ?_
    refine ld F2 rfl ?_
    refine wpAny_pyIter_list (hlist.at fun o e => F2.keep _ o e) ?_
    have hk5 : ∀ b o, h2.get? b = some o → (h2.push { cls := .type "list_iterator", data := .fields #[.ref il, .int 0 0] }).get? b = some o := fun b o e => Heap.get?_push_of_some _ e
    have F5 := Fr.kept F2 hk5
    have N5 := News.kept N2 hk5
    have hit5 : (h2.push { cls := .type "list_iterator", data := .fields #[.ref il, .int 0 0] }).IsListIter h2.objs.size il 0 := ⟨_, Heap.get?_push_size _ rfl, rfl, rfl⟩
    have hl5 : (h2.push { cls := .type "list_iterator", data := .fields #[.ref il, .int 0 0] }).IsList il vs.toArray := hlist.at fun o e => F5.keep _ o e
    have hP4 : @LT.lt Nat _ P h2.objs.size := Heap.lt_size (N2 _ (.head _)).1
    have hL4 : @LT.lt Nat _ L h2.objs.size := F2.ns.lt
    have hil0 : @LT.lt Nat _ il s.heap.objs.size := by obtain ⟨_, e, _⟩ := hlist; exact Heap.lt_size e
    have hsL : @LE.le Nat _ s.heap.objs.size L := F2.above
    have hnew4 : s.heap.get? h2.objs.size = none := by
      cases q : s.heap.get? h2.objs.size with
      | none => rfl
      | some o => exact absurd (Heap.lt_size (F2.keep _ _ q)) (Nat.lt_irrefl _)
    clear hk5 F2 N2
    dsimp only at F5 N5 hit5 hl5 hP4 hL4 hnew4 ⊢
    generalize h2.push _ = h5 at F5 N5 hit5 hl5 ⊢
    generalize h2.objs.size = I2 at hit5 hP4 hL4 hnew4 ⊢
    refine forS (g := s.heap) (L := L) ((Src.listT rfl I2 il (neN (by omega)) vs.toArray (fun v hv => hitems.refs v (by simpa using hv))).alive listIter_alive)
      (fun i m' news' => ∃ P ps n, Has m' [(Str.ofString "text", .str x t1), (Str.ofString "places", .ref P)] ∧ news' = [(P, W.listOf ps.toArray n)] ∧ Nats ps (mePlaces x (is.take i))  )
      (by exact off2 (neN (by omega)) (neN (by omega))) (by exact one_none hnew4) (by exact one_off (by intro hm; exact absurd (List.mem_singleton.mp hm) (Nat.ne_of_lt hP4))) ⟨hit5, hl5⟩ F5 N5
      ⟨P, [.int 0 tz], 0, ⟨rfl, rfl, trivial⟩, rfl, Nats.cons (n := 0) (t := tz) .nil⟩ ?_ ?_
    · intro i v m₁ news₁ h tk1 own hlt hP hJ hnw hown F N
      obtain ⟨P, ps, n, Hm, rfl, hps⟩ := hJ
      rw [← Hm.over] at F
      clear F5 N5
      obtain ⟨hP, oI, hoI⟩ := hP
      obtain ⟨a, it, ta, tb, rfl, hit, hla, hk1, hk2⟩ := hitems.at i v (by simpa using hP)
      have hI2L : I2 ≠ L := neN (by omega)
      replace N := news_more N hoI hnew4 hI2L
      refine asgl3 rfl (hla.at fun o e => F.keep _ o e) F N rfl rfl rfl rfl fun h4 tk4 F4 N4 => ?_
      clear F N
      simp only [List.cons_append, List.nil_append] at N4
      generalize hQ : mePlaces x (is.take i) = pl0 at hps
      rcases hps with _ | @⟨z, tz, ps, ns, hps'⟩
      · k_steps
        refine TurnP.next [(P, W.listOf #[] n)] rfl (by assumption) (by assumption) (fun p hp => by rcases List.mem_append.mp hp with hp | hp; rw [List.mem_singleton.mp hp]; simp; simp [hp]) hnw ⟨P, [], n, ⟨rfl, rfl, trivial⟩, rfl, by rw [mePlaces_next hit, hQ]; exact .nil⟩
      · have hI := (Nats.cons (n := z) (t := tz) hps').ints
        simp only [List.map_cons] at hI
        have hNN : Nats (Value.int (↑z) tz :: ps) (z :: ns) := Nats.cons hps'
        have hML := mePlaces_le hlen (is.take i)
        rw [hQ] at hML
        have hz : z ≤ x.length := hML.1 z (.head _)
        have hpl : (Value.int (↑z) tz :: ps).length ≤ 1001 := by rw [hNN.length]; exact hML.2
        have hnl : (z :: ns).length ≤ 2000 := Nat.le_trans hML.2 (by decide)
        have hE : (Str.ofString "").length ≤ 1000 := Nat.le_of_ble_eq_true rfl
        k_steps
        · exfalso; simp_all
        · rename_i rgX F9 N9 K9
          refine kll_range (n := ((x.length : Int) + 1 - (z : Int)).toNat) rfl F9 N9 (show IsRange _ _ (z : Int) _ 1 _ _ _ from rgX) (small_one (by omega) (by omega) (by omega) (by omega)) (rangeSize_nat _ _) (by omega) fun D us c h9 tk9 F10 N10 l10 hI10 => ?_
          (try dsimp only)
          k_steps
          refine TurnP.next [(D, W.listOf us.toArray c)] rfl (by assumption) (by assumption) (fun p hp => by rcases List.mem_append.mp hp with hp | hp; rw [List.mem_singleton.mp hp]; simp; simp [hp]) ?_ ⟨D, us, c, ⟨rfl, rfl, trivial⟩, rfl, ?_⟩
          · refine one_off fun hm => ?_
            have hne := l10 (I2, oI) (by simp)
            exact absurd (List.mem_singleton.mp hm) (Ne.symm (Nat.ne_of_lt hne))
          · rw [mePlaces_next hit, hQ]
            show Nats us (if (it.kind == Str.ofString "*") = true then _ else _)
            rw [if_pos (by assumption)]
            refine nats_range ?_
            rw [show x.length + 1 - z = ((x.length : Int) + 1 - (z : Int)).toNat by omega]
            exact hI10
        all_goals (refine TurnP.next [_] rfl (by assumption) (by assumption) sub3 ?_ ⟨_, _, _, ⟨rfl, rfl, trivial⟩, rfl, ?_⟩)
        · exact ne_off (oI := oI) (by assumption) (by simp)
        · rw [mePlaces_next hit, hQ]
          exact me_step1 (by assumption) (by assumption) (by assumption)
        · exact ne_off (oI := oI) (by assumption) (by simp)
        · rw [mePlaces_next hit, hQ]
          exact me_step2 (by assumption) (by assumption) (by assumption)
    · intro m₁ news₁ h tk1 hJ F N
      obtain ⟨P, ps, n, Hm, rfl, hps⟩ := hJ
      refine wpAny_execs_nil ?_
      exact Nx.mk ⟨(P, ps, n), by rw [List.size_toArray, hitems.length, List.take_length] at hps; exact hps⟩ rfl F Hm N fun _ h => h
  rintro ⟨⟨P3, vs3, n3⟩, h3⟩ hp3 tk3 m3 F3 N3
  clear F2 N2
  dsimp only at h3 F3 N3
  have hI3 := h3.ints
  have hML := mePlaces_le hlen is
  have hl3 : vs3.length ≤ 1001 := by rw [h3.length]; exact hML.2
  k_steps
  exact Ret.mk F3 rfl (congrArg Value.bool (any_cast _ _))
end Mine
end
section
open PySem PySem.W PyProof.Rows
namespace Mine
/-- a turn's end of a comprehension, kept dark -/
noncomputable def TurnC (h₀ : Heap) (L : Addr) (m : Str → Option Value) (s₁ : Shared) (I : Addr) (oI : Obj) (C : Addr) (oC : Obj) (D : Addr) (oD : Obj) (S : List (Addr × Obj) → Prop) (J : Value → List (Addr × Obj) → Prop) (y : Value) (s₂ : Shared) : Prop :=
  LCg.CompEnd h₀ L m s₁ I oI C oC D oD S J y s₂
theorem rest_ind {prog : Program} {w : World} {A : Around} {h₀ : Heap} {L : Addr} {m : Str → Option Value} {env : Env} {elt : PySem.Expr} {x : Str} {scope : Scope} {cl : List (Str × Addr)} {s : Shared} {S : List (Addr × Obj) → Prop} {P : Nat → Value → Prop}
    {Fin : List Value → List (Addr × Obj) → Prop} {n : Nat} {news : List (Addr × Obj)} (J : Nat → List Value → List (Addr × Obj) → Prop) (h0 : J 0 [] news)
    (turn : ∀ i ys news v I oI C oC D m₂ h tk (E' : Value → Shared → Prop), i < n → J i ys news → P i v → LCg.NsObj oC m₂ → m₂ x = some v → Fr h₀ L h m → News h₀ L h ((I, oI) :: (C, oC) :: (D, LCg.lst ys) :: news) → LCg.Off3 I C D news → ((@Ne Nat I C) ∧ (@Ne Nat I D) ∧ (@Ne Nat C D)) →
      wpAny (model prog w) A (eval elt (compEnvC scope cl C env)) (TurnC h₀ L m { s with heap := h, toks := tk } I oI C oC D (LCg.lst ys) S (fun y news' => J (i + 1) (ys ++ [y]) news')) E' { s with heap := h, toks := tk })
    (fin : ∀ ys news, J n ys news → Fin ys news) : LCg.CompRest prog w A h₀ L m env elt x scope cl s S P Fin n 0 [] news := by
  have key : ∀ k i ys news, i + k = n → J i ys news → LCg.CompRest prog w A h₀ L m env elt x scope cl s S P Fin k i ys news := by
    intro k
    induction k with
    | zero =>
      intro i ys news hi j
      have : i = n := by omega
      subst this
      exact LCg.CompRest.zero (fin ys news j)
    | succ k ih =>
      intro i ys news hi j
      refine LCg.CompRest.succ fun v I oI C oC D m₂ h tk E' hP hC hx F N off ne => ?_
      refine wpAny_mono (turn i ys news v I oI C oC D m₂ h tk E' (by omega) j hP hC hx F N off ne) (fun y s₂ q => ?_) fun _ _ e => e
      obtain ⟨h', tk', news', e, F', N', off', hS, r⟩ := q
      exact ⟨h', tk', news', e, F', N', off', hS, ih (i + 1) _ news' (by omega) r⟩
  exact key n 0 [] news (by omega) h0
end Mine
namespace Mine
noncomputable def CompD (prog : Program) (w : World) (A : Around) (h₀ : Heap) (L : Addr) (m : Str → Option Value) (env : Env) (elt : PySem.Expr) (x : Str) (scope : Scope) (cl : List (Str × Addr)) (Fin : Shared → List Value → List (Addr × Obj) → Prop) (xv : Value) (s₁ : Shared) : Prop :=
  LCg.CompSrc prog w A h₀ L m env elt x scope cl Fin xv s₁
theorem listCompU {prog : Program} {w : World} {A : Around} {E : Value → Shared → Prop} {s : Shared} {h₀ : Heap} {L : Addr} {m : Str → Option Value} {env : Env} {elt iter : PySem.Expr} {x : Str} {px : Pos} {scope : Scope} {cl : List (Str × Addr)} {pos : Pos} {Q : Value → Shared → Prop} (F₀ : Fr h₀ L s.heap m)
    (hclos : closureFor scope env = pure cl) (hcell : ∀ y ∈ scope.names, y.2 ≠ .cell) (hkind : scope.kind = .function)
    (hnames : ∀ y ∈ scope.names, y.2 = .local → scope.names.lookup y.1 = some .local) (hx : scope.names.lookup x = some .local)
    (h : wpAny (model prog w) A (eval iter env) (CompD prog w A h₀ L m env elt x scope cl (fun s₂ => LCg.FinE h₀ L m s₂ Q)) E s)
    (hs : ∀ x, foldedSetIterable iter env x = pure x) :
    wpAny (model prog w) A (eval (.ListComp elt [⟨.Name x px, iter, [], 0⟩] scope pos) env) Q E s := LCg.ListComp_U F₀ hclos hcell hkind hnames hx h hs
end Mine
end
example : True := by first | walk1 | trivial
section
open PySem PySem.W PyProof.Rows
namespace Mine
theorem my_item9 {prog : Program} {w : World} {A : Around} {E : Value → Shared → Prop} {s : Shared} {value slice : PySem.Expr} {l : Addr} {ys : List Value} {k0 : Int} {u : Tok} {Q : Value → Shared → Prop}
    (hl : s.heap.IsList l ys.toArray) (hlen : ys.length = 9) (h : ∀ v, ys[(k0.fmod 9).toNat]? = some v → Q v s)
    (hs : subscripted slice false (.ref l) (.int (k0.fmod 9) u) = operate [.ref l, .int k u] (getItem (.ref l) (.int (k0.fmod 9) u)) := by with_unfolding_all rfl) :
    wpAny (model prog w) A (subscriptTail value slice (.ref l) (.int (k0.fmod 9) u)) Q E s := by
  have h0 : 0 ≤ k0.fmod 9 := Int.fmod_nonneg_of_pos _ (by decide)
  have h9 : k0.fmod 9 < 9 := Int.fmod_lt_of_pos _ (by decide)
  generalize k0.fmod 9 = k at h0 h9 h hs ⊢
  obtain ⟨v, hv⟩ : ∃ v, ys[k.toNat]? = some v := ⟨ys[k.toNat]'(by omega), List.getElem?_eq_getElem _⟩
  exact tail_any hl.typeIs slot_list_getitem.lookup (wpAny_getItem_list hl h0 (Int.lt_trans h9 (by decide)) (by simpa using hv) (h v hv)) hs
local macro_rules | `(tactic| walk_at "subscriptTail") => `(tactic| (k_here; refine my_item9 (by is_list) (by assumption) ?_; intro _ _))
noncomputable def itBar (k : Str) : Bool := (k == Str.ofString "?") || (Txt.slice k none (some 2) == Str.ofString "[!")
noncomputable def itObj (k : Str) (t t' : Tok) : Obj := W.listOf #[.str k t, .str (Txt.stripChars k (Str.ofString "[!]")) t', .bool (itBar k)] 0
noncomputable def ItJ (ks : List Str) (cells : List (Addr × Obj)) (i : Nat) (ys : List Value) (news : List (Addr × Obj)) : Prop :=
  ∃ pre, news = pre ++ cells ∧ ys.length = i ∧ (∀ p ∈ pre, ∀ c ∈ cells, p.1 ≠ c.1) ∧ (∀ (j : Nat) (v : Value), ys[j]? = some v → ∃ (a : Addr) (k : Str) (t t' : Tok), v = Value.ref a ∧ ks[j]? = some k ∧ (a, itObj k t t') ∈ pre)
theorem Ss.at {vs ks} (h : Ss vs ks) : ∀ (i : Nat) (v : Value), vs[i]? = some v → ∃ k t, v = .str k t ∧ ks[i]? = some k := by
  induction h with
  | nil => intro i v hv; cases hv
  | cons _ ih =>
    intro i v hv
    cases i with
    | zero => cases hv; exact ⟨_, _, rfl, rfl⟩
    | succ i => exact ih i v hv
theorem allLt_mem {d : Nat} : ∀ {l : List (Addr × Obj)}, AllLt d l → ∀ p ∈ l, @LT.lt Nat _ p.1 d
  | [], _, _, h => nomatch h
  | _ :: _, x, p, h => by
    rcases List.mem_cons.mp h with rfl | h
    · exact x.1
    · exact allLt_mem x.2 p h
theorem off1_mem {D : Addr} : ∀ {l : List (Addr × Obj)}, LCg.Off1 D l → ∀ p ∈ l, p.1 ≠ D
  | [], _, _, h => nomatch h
  | _ :: _, x, p, h => by
    rcases List.mem_cons.mp h with rfl | h
    · exact x.1
    · exact off1_mem x.2 p h
theorem ItJ.nil {ks : List Str} {cells : List (Addr × Obj)} : ItJ ks cells 0 [] cells := by
  refine ⟨[], rfl, rfl, ?_, ?_⟩
  · intro p hp; cases hp
  · intro j v hj; cases hj
theorem it_turn {ks : List Str} {cells : List (Addr × Obj)} {i : Nat} {ys : List Value} {g h' : Heap} {L : Addr} {m : Str → Option Value} {s₁ : Shared} {I C D a : Addr} {oI oC oD : Obj} {pre : List (Addr × Obj)} {k : Str} {t t' : Tok} {b : Bool} {tk : Nat} {kl : Addr} {items : Array Value}
    (F : Fr g L h' m) (N : News g L h' ((a, W.listOf #[.str k t, .str (Txt.stripChars k (Str.ofString "[!]")) t', .bool b] 0) :: (I, oI) :: (C, oC) :: (D, oD) :: (pre ++ cells)))
    (l : I < a ∧ C < a ∧ D < a ∧ AllLt a (pre ++ cells)) (hb : b = itBar k) (off : LCg.Off3 I C D (pre ++ cells)) (hk : ks[i]? = some k) (hlen : ys.length = i) (hap : ∀ p ∈ pre, ∀ c ∈ cells, p.1 ≠ c.1)
    (hys : ∀ (j : Nat) (v : Value), ys[j]? = some v → ∃ (a : Addr) (k : Str) (t t' : Tok), v = Value.ref a ∧ ks[j]? = some k ∧ (a, itObj k t t') ∈ pre) (hl : g.IsList kl items) :
    TurnC g L m s₁ I oI C oC D oD (LCg.SrcAt g kl items) (fun y news' => ItJ ks cells (i + 1) (ys ++ [y]) news') (.ref a) { s₁ with heap := h', toks := tk } := by
  subst hb
  have lt := allLt_mem l.2.2.2
  refine LCg.CompEnd.intro F N (((a, itObj k t t') :: pre) ++ cells) ?_ ?_ (.inl hl) ?_
  · intro p hp
    simp only [List.mem_cons, List.cons_append, List.mem_append] at hp ⊢
    rcases hp with rfl | rfl | rfl | rfl | hp | hp
    · simp
    · simp
    · simp
    · exact .inl rfl
    · simp [hp]
    · simp [hp]
  · refine ⟨⟨?_, ?_, ?_⟩, off⟩
    · exact Nat.ne_of_gt l.1
    · exact Nat.ne_of_gt l.2.1
    · exact Nat.ne_of_gt l.2.2.1
  · refine ⟨(a, itObj k t t') :: pre, rfl, by simp [hlen], ?_, ?_⟩
    · intro p hp c hc
      rcases List.mem_cons.mp hp with rfl | hp
      · exact Nat.ne_of_gt (lt c (List.mem_append_right _ hc))
      · exact hap p hp c hc
    · intro j v hj
      rcases Nat.lt_or_ge j ys.length with h1 | h1
      · rw [List.getElem?_append_left h1] at hj
        obtain ⟨a', k', t1, t2, e, hk', hm⟩ := hys j v hj
        exact ⟨a', k', t1, t2, e, hk', List.mem_cons_of_mem _ hm⟩
      · rw [List.getElem?_append_right h1] at hj
        have hj0 : j = ys.length := by
          rcases Nat.eq_or_lt_of_le h1 with e | e
          · exact e.symm
          · rw [List.getElem?_eq_none (by simp; omega)] at hj; cases hj
        subst hj0
        rw [Nat.sub_self] at hj
        cases hj
        exact ⟨a, k, t, t', rfl, hlen ▸ hk, .head _⟩
noncomputable def mkItem (k : Str) : Item := ⟨k, Txt.stripChars k (Str.ofString "[!]"), itBar k⟩
noncomputable def ixOf (x : Int) (i : Nat) : Nat := (((x.fdiv 3).fdiv (9 ^ i)).fmod 9).toNat
noncomputable def itPicks (x : Int) (ks : List Str) : List Str := (List.range (1 + x.fmod 3).toNat).map fun i => ks.getD (ixOf x i) (Str.ofString "")
theorem Items.of_at {h : Heap} : ∀ {vs : List Value} {is : List Item}, vs.length = is.length → (∀ (j : Nat) (v : Value), vs[j]? = some v → ∃ a i t t', v = .ref a ∧ is[j]? = some i ∧ h.IsList a #[.str i.kind t, .str i.some t', .bool i.barred] ∧ i.kind.length ≤ 1000 ∧ i.some.length ≤ 1000) → Items h vs is
  | [], [], _, _ => .nil
  | [], _ :: _, e, _ => by cases e
  | _ :: _, [], e, _ => by cases e
  | v :: vs, i :: is, e, k => by
    obtain ⟨a, i', t, t', rfl, hi, h1, h2, h3⟩ := k 0 _ rfl
    cases hi
    exact .cons h1 h2 h3 (Items.of_at (by simpa using e) fun j v hj => k (j + 1) v hj)
theorem strip_len (x y : Str) : (Txt.stripChars x y).length ≤ x.length := by have := len_stripChars x y; omega
noncomputable def ItK (ks : List Str) (x : Int) (base pre : List (Addr × Obj)) (i : Nat) (zs : List Value) (news : List (Addr × Obj)) : Prop :=
  news = base ∧ zs.length = i ∧ ∀ (j : Nat) (v : Value), zs[j]? = some v → ∃ (a : Addr) (k : Str) (t t' : Tok), v = Value.ref a ∧ ks[ixOf x j]? = some k ∧ (a, itObj k t t') ∈ pre
theorem it_turn2 {ks : List Str} {x : Int} {base pre : List (Addr × Obj)} {i : Nat} {zs : List Value} {g h' : Heap} {L : Addr} {m : Str → Option Value} {s₁ : Shared} {I C D : Addr} {oI oC oD : Obj} {ys : List Value} {v : Value} {tk : Nat}
    (F : Fr g L h' m) (N : News g L h' ((I, oI) :: (C, oC) :: (D, oD) :: base)) (off : LCg.Off3 I C D base) (hzl : zs.length = i)
    (hzs : ∀ (j : Nat) (v : Value), zs[j]? = some v → ∃ (a : Addr) (k : Str) (t t' : Tok), v = Value.ref a ∧ ks[ixOf x j]? = some k ∧ (a, itObj k t t') ∈ pre)
    (hys : ∀ (j : Nat) (v : Value), ys[j]? = some v → ∃ (a : Addr) (k : Str) (t t' : Tok), v = Value.ref a ∧ ks[j]? = some k ∧ (a, itObj k t t') ∈ pre)
    (hv : ys[ixOf x i]? = some v) :
    TurnC g L m s₁ I oI C oC D oD (fun _ => True) (fun y news' => ItK ks x base pre (i + 1) (zs ++ [y]) news') v { s₁ with heap := h', toks := tk } := by
  refine LCg.CompEnd.intro F N base (fun p hp => hp) off trivial ⟨rfl, by simp [hzl], ?_⟩
  intro j v' hj
  rcases Nat.lt_or_ge j zs.length with h1 | h1
  · rw [List.getElem?_append_left h1] at hj
    exact hzs j v' hj
  · rw [List.getElem?_append_right h1] at hj
    have hj0 : j = zs.length := by
      rcases Nat.eq_or_lt_of_le h1 with e | e
      · exact e.symm
      · rw [List.getElem?_eq_none (by simp; omega)] at hj; cases hj
    subst hj0
    rw [Nat.sub_self] at hj
    cases hj
    rw [hzl]
    exact hys _ _ hv
set_option maxHeartbeats 2000000 in
theorem it_ct {w : World} {x : Int} {t1 : Tok} {kl : Addr} {vs : List Value} {ks : List Str} (hks : Ss vs ks) (h9 : ks.length = 9) (hkl : ∀ k ∈ ks, k.length ≤ 100) : Ct w 660 139 [.int x t1, .ref kl] (fun h => h.IsList kl vs.toArray)
    (fun v h h' => ∃ D n zs, v = .ref D ∧ h.get? D = none ∧ h'.get? D = some (W.listOf (List.toArray zs) n) ∧ Items h' zs ((itPicks x ks).map mkItem) ∧ ∀ a, Value.ref a ∈ zs → h.get? a = none) := by
  intro A s E h1 hd hu G hpre
  refine wp_up h1 hd hu ?_
  clear h1 hd hu A
  have X := G.X
  obtain ⟨p, loose, mg, mb, T⟩ := G.T
  refine wpAny_call ?_
  k_dflt (refine' call_cellsN_ret (binds := [(PySem.Str.ofString "x", .int x t1), (PySem.Str.ofString "kinds", .ref kl)]) ?k8 ?ho ?hd ?hl ?hcd ?hb ?hloc ?hnd ?_ ?c1 ?c2 ?c3; (case ho => exact X 139 _ (by k_is)); (case hd => exact rfl); (case k8 => exact Nat.le_of_ble_eq_true rfl); (case hl => exact T.nolimit); (case hcd => exact codeRec_of X (by k_is)); (case hb => exact rfl); (case hloc => exact kindsN rfl); (case hnd => decide +kernel); (case c1 => exact rfl); (case c2 => exact rfl); (case c3 => exact rfl); k_whole)
  intro h₁ tk0 cells F N Y
  have l0 : s.heap.objs.size ≤ s.heap.objs.size := Nat.le_refl _
  generalize s.heap.objs.size = L at F N Y ⊢
  k_cells Y
  (try simp only [List.cons_append, List.nil_append] at N)
  (try dsimp only)
  (try k_fold)
  rename_i o1 o2 d1 d2
  replace d1 : o1.data = .cell none := d1
  replace d2 : o2.data = .cell (some (.int x t1)) := d2
  replace F := Fr.over (l := [(Str.ofString "kinds", .ref kl)]) F ⟨rfl, trivial⟩
  generalize bindL _ _ _ = m0 at F
  refine wpAny_execs_cons (wpAny_Assign_stores ?_ rfl rfl)
  refine LCg.ListComp_U F rfl (by decide) rfl (by decide) rfl ?_ (fun _ => rfl)
  k_steps
  refine LCg.CompSrc.base rfl F N hpre (by rw [sizeLine_eq, List.size_toArray, hks.length]; omega) fun gg => ?_
  refine rest_ind (ItJ ks [(L + 1 + 1, o1), (L + 1, o2)]) ItJ.nil ?_ ?_
  · rintro i ys _ v I oI C oC D m₂ h tk E' hi ⟨pre, rfl, hlen, hap, hys⟩ hP hC hm F3 N3 off ne
    obtain ⟨k, t, rfl, hk⟩ := hks.at i v (by simpa using hP)
    have hkl : k.length ≤ 1000 := by have := hkl k (List.mem_of_getElem? hk); omega
    clear F N
    k_steps
    all_goals (show TurnC _ _ _ _ _ _ _ _ _ _ _ _ _ _)
    · exact it_turn (by assumption) (by assumption) (by assumption) (by unfold itBar; rw [‹(k == Str.ofString "?") = true›, Bool.true_or]) off hk hlen hap hys hpre
    · exact it_turn (by assumption) (by assumption) (by assumption) (by unfold itBar; rw [‹(k == Str.ofString "?") = false›, Bool.false_or]) off hk hlen hap hys hpre
  · rintro ys _ ⟨pre, rfl, hlen, hap, hys⟩ D h2 tk2 F2 N2 off2
    clear F N
    show wpAny _ _ (assign _ _ (Value.ref D)) _ _ _
    refine wpAny_assign_Name ?_
    have hD0 : ∀ p ∈ (D, LCg.lst ys) :: pre, p.1 ≠ L + 1 + 1 := fun p hp => by
      rcases List.mem_cons.mp hp with rfl | hp
      · exact fun e => (off1_mem off2 (L + 1 + 1, o1) (by simp)) e.symm
      · exact hap p hp (L + 1 + 1, o1) (by simp)
    refine stCN (own := (D, LCg.lst ys) :: pre) (rest := [(L + 1, o2)]) F2 (by simpa using N2) rfl d1 hD0 (fun p hp => by rw [List.mem_singleton.mp hp]; exact neN (by omega)) fun h3 o3 F3 N3 d3 => ?_
    clear F2 N2
    (try dsimp only)
    (try k_fold)
    have N4 : News s.heap L h3 ((L + 1 + 1, o3) :: (L + 1, o2) :: (D, LCg.lst ys) :: pre) := fun p hp => N3 p (by
      simp only [List.mem_cons, List.mem_append, List.cons_append, List.not_mem_nil, or_false] at hp ⊢
      rcases hp with h | h | h | h
      · exact .inr (.inr (.inl h))
      · exact .inr (.inr (.inr h))
      · exact .inl h
      · exact .inr (.inl h))
    clear N3
    refine wpAny_execs_cons (wpAny_Return_some ?_)
    refine listCompU F3 rfl (by decide) rfl (by decide) rfl ?_ (fun _ => rfl)
    have hm0 : 0 ≤ x.fmod 3 := Int.fmod_nonneg_of_pos _ (by decide)
    have hm3 : x.fmod 3 < 3 := Int.fmod_lt_of_pos _ (by decide)
    k_steps
    rename_i rgX F9 N9 K9
    (try dsimp only at F9 N9 K9 ⊢)
    refine LCg.CompSrc.range rfl F9 N9 rgX (small_one (by omega) (by omega) (by omega) (by omega)) (rangeSize_nat _ _) (by rw [sizeLine_eq]; omega) fun gg2 => ?_
    have hl9 : ys.length = 9 := by rw [hlen, List.size_toArray, hks.length, h9]
    refine rest_ind (ItK ks x ((L + 1 + 1, o3) :: (L + 1, o2) :: (D, LCg.lst ys) :: pre) pre) ⟨rfl, rfl, fun j v hj => by cases hj⟩ ?_ ?_
    · rintro i zs _ v I oI C oC D2 m₂ h tk E' hi ⟨rfl, hzl, hzs⟩ ⟨t, rfl⟩ hC hm F10 N10 off ne
      have hi3 : i < 3 := by omega
      clear F9 N9
      (try dsimp only)
      have hi3' : i = 0 ∨ i = 1 ∨ i = 2 := by omega
      rcases hi3' with rfl | rfl | rfl
      · k_steps
        show TurnC _ _ _ _ _ _ _ _ _ _ _ _ _ _
        exact it_turn2 (by assumption) (by assumption) off hzl hzs hys (by assumption)
      · k_steps
        show TurnC _ _ _ _ _ _ _ _ _ _ _ _ _ _
        exact it_turn2 (by assumption) (by assumption) off hzl hzs hys (by assumption)
      · k_steps
        show TurnC _ _ _ _ _ _ _ _ _ _ _ _ _ _
        exact it_turn2 (by assumption) (by assumption) off hzl hzs hys (by assumption)
    · rintro zs _ ⟨rfl, hzl, hzs⟩ D3 h4 tk4 F4 N4 off4
      (try dsimp only)
      show Ret _ _ _ _
      refine Ret.mk F4 rfl ⟨D3, _, zs, rfl, (N4 _ (.head _)).2.2, (N4 _ (.head _)).1, Items.of_at ?_ ?_, fun a ha => ?_⟩
      · rw [hzl, List.length_map, itPicks, List.length_map, List.length_range, Int.sub_zero]
      · intro j v hj
        obtain ⟨a, k, t, t', rfl, hk, hm⟩ := hzs j v hj
        have hjl : j < zs.length := by
          rcases Nat.lt_or_ge j zs.length with h1 | h1
          · exact h1
          · rw [List.getElem?_eq_none h1] at hj; cases hj
        have hkl' := hkl k (List.mem_of_getElem? hk)
        have hsl := strip_len k (Str.ofString "[!]")
        refine ⟨a, mkItem k, t, t', rfl, ?_, ⟨_, (N4 (a, itObj k t t') (by simp [hm])).1, rfl, _, rfl⟩, by show k.length ≤ 1000; omega, by show (Txt.stripChars k (Str.ofString "[!]")).length ≤ 1000; omega⟩
        rw [hzl, Int.sub_zero] at hjl
        simp only [itPicks, List.map_map, List.getElem?_map, List.getElem?_range hjl, Option.map_some, Function.comp]
        rw [List.getD_eq_getElem?_getD, hk]
        rfl
      · obtain ⟨j, hj⟩ := List.getElem?_of_mem ha
        obtain ⟨a', k, t, t', e, hk, hm⟩ := hzs j _ hj
        rw [show a = a' from by cases e; rfl]
        exact (N4 (a', itObj k t t') (by simp [hm])).2.2
end Mine
end
section
open PySem PySem.W PyProof.Rows
namespace Mine
section
variable {prog : Program} {w : World} {A : Around} {E : Value → Shared → Prop} {s : Shared} {d : Addr} {n : Nat} {f : Int → Option Value}
theorem tr_lookup_keep {Q : Builtin.Str.Mapped → Shared → Prop} (hm : s.heap.MapOf (intKind prog w) d f) (hv : f n = none) (hd : (d == sysModules) = false) (hh : A.handled = none)
    (hQ : ∀ h' tk, (∀ b o, s.heap.get? b = some o → h'.get? b = some o) → Q .keep { s with heap := h', toks := tk }) : wpAny (model prog w) A (Builtin.Str.tableLookup (.ref d) n) Q E s := by
  unfold Builtin.Str.tableLookup
  refine wpAny_bind (wpAny_attempt ?_)
  refine wpAny_bind (wpAny_mkInt ?_)
  refine wpAny_getItem_missing_of (intKind_is prog w n _) hd hh hm hv fun h' e x => ?_
  dsimp only
  refine wpAny_bind (wpAny_isInstance (T := "KeyError") (b := true) ?_ (by rw [isSubtype_type]; kernel_rfl) ?_)
  · obtain ⟨ob, _, ho, hc, _⟩ := x.there
    exact ⟨ob, ho, hc⟩
  · rw [if_pos rfl]
    repeat wp_step
    exact hQ _ _ x.keeps
set_option maxHeartbeats 4000000 in
theorem tr_keep {Q : Fin → Shared → Prop} {t : Tok} (hm : s.heap.MapOf (intKind prog w) d f) (hv : f n = none) (hd : (d == sysModules) = false) (hh : A.handled = none) (hn : n < 128)
    (hQ : ∀ t' h' tk, (∀ b o, s.heap.get? b = some o → h'.get? b = some o) → Q (.done (.ret (.str ⟨#[n]⟩ t'))) { s with heap := h', toks := tk }) : wpAny (model prog w) A (Builtin.«str.translate» ⟨[.str ⟨#[n]⟩ t, .ref d], []⟩) Q E s := by
  unfold Builtin.«str.translate»
  repeat (first | (show wpAny _ _ (Builtin.Str.tableLookup _ n) _ _ _; refine tr_lookup_keep hm hv hd hh fun h' tk k => ?_) | wp_step)
  have key := hQ tk h' (tk + 1) k
  simpa using key
theorem tr_lookup_text {Q : Builtin.Str.Mapped → Shared → Prop} {x : Str} {u : Tok} (hm : s.heap.MapOf (intKind prog w) d f) (hv : f n = some (.str x u))
    (hQ : ∀ tk, Q (.text x) { s with toks := tk }) : wpAny (model prog w) A (Builtin.Str.tableLookup (.ref d) n) Q E s := by
  unfold Builtin.Str.tableLookup
  refine wpAny_bind (wpAny_attempt ?_)
  refine wpAny_bind (wpAny_mkInt ?_)
  refine wpAny_getItem_of (intKind_is prog w n _) hm hv ?_
  dsimp only
  repeat wp_step
  exact hQ _
set_option maxHeartbeats 4000000 in
theorem tr_text {Q : Fin → Shared → Prop} {t u : Tok} {a b : Nat} (hm : s.heap.MapOf (intKind prog w) d f) (hv : f n = some (.str ⟨#[a, b]⟩ u)) (hn : n < 128)
    (hQ : ∀ t' tk, Q (.done (.ret (.str ⟨#[a, b]⟩ t'))) { s with toks := tk }) : wpAny (model prog w) A (Builtin.«str.translate» ⟨[.str ⟨#[n]⟩ t, .ref d], []⟩) Q E s := by
  unfold Builtin.«str.translate»
  repeat (first | (show wpAny _ _ (Builtin.Str.tableLookup _ n) _ _ _; refine tr_lookup_text hm hv fun tk => ?_) | wp_step)
  have key := hQ tk (tk + 1)
  simpa using key
theorem call_keep {Q : Value → Shared → Prop} {E : Value → Shared → Prop} {t : Tok} (hm : s.heap.MapOf (intKind prog w) d f) (hv : f n = none) (hd : (d == sysModules) = false) (hh : A.handled = none) (hn : n < 128)
    (hQ : ∀ t' h' tk, (∀ b o, s.heap.get? b = some o → h'.get? b = some o) → Q (.str ⟨#[n]⟩ t') { s with heap := h', toks := tk }) : wpAny (model prog w) A (call (.builtin "str.translate") [.str ⟨#[n]⟩ t, .ref d]) Q E s :=
  wpAny_call_entry PySem.F.slot_str_translate (typeIs_str _ _ _) PySem.F.entry_str_translate (tr_keep (A := A.in1) hm hv hd hh hn fun t' h' tk k => ⟨_, rfl, hQ t' h' tk k⟩) (PySem.F.args_str_translate_2 _ _)
theorem call_text {Q : Value → Shared → Prop} {E : Value → Shared → Prop} {t u : Tok} {a b : Nat} (hm : s.heap.MapOf (intKind prog w) d f) (hv : f n = some (.str ⟨#[a, b]⟩ u)) (hn : n < 128)
    (hQ : ∀ t' tk, Q (.str ⟨#[a, b]⟩ t') { s with toks := tk }) : wpAny (model prog w) A (call (.builtin "str.translate") [.str ⟨#[n]⟩ t, .ref d]) Q E s :=
  wpAny_call_entry PySem.F.slot_str_translate (typeIs_str _ _ _) PySem.F.entry_str_translate (tr_text (A := A.in1) hm hv hn fun t' tk => ⟨_, rfl, hQ t' tk⟩) (PySem.F.args_str_translate_2 _ _)
end
end Mine
end
example : True := by first | walk1 | trivial
section
open PySem PySem.W PyProof.Rows
namespace Mine
noncomputable def tab70 : List (Value × Value) := [(Value.int 40 372, Value.str (Str.ofString "\\(") 376), (Value.int 41 378, Value.str (Str.ofString "\\)") 382), (Value.int 91 384, Value.str (Str.ofString "\\[") 388), (Value.int 93 390, Value.str (Str.ofString "\\]") 394), (Value.int 123 396, Value.str (Str.ofString "\\{") 400), (Value.int 125 402, Value.str (Str.ofString "\\}") 406), (Value.int 63 408, Value.str (Str.ofString "\\?") 412), (Value.int 42 414, Value.str (Str.ofString "\\*") 418), (Value.int 43 420, Value.str (Str.ofString "\\+") 424), (Value.int 45 426, Value.str (Str.ofString "\\-") 430), (Value.int 124 432, Value.str (Str.ofString "\\|") 436), (Value.int 94 438, Value.str (Str.ofString "\\^") 442), (Value.int 36 444, Value.str (Str.ofString "\\$") 448), (Value.int 92 450, Value.str (Str.ofString "\\\\") 454), (Value.int 46 456, Value.str (Str.ofString "\\.") 460), (Value.int 38 462, Value.str (Str.ofString "\\&") 466), (Value.int 126 468, Value.str (Str.ofString "\\~") 472), (Value.int 35 474, Value.str (Str.ofString "\\#") 478), (Value.int 32 480, Value.str (Str.ofString "\\ ") 484), (Value.int 9 486, Value.str (Str.ofString "\\\t") 490), (Value.int 10 492, Value.str (Str.ofString "\\\n") 496), (Value.int 13 498, Value.str (Str.ofString "\\\r") 502), (Value.int 11 504, Value.str (Str.ofString "\\\x0b") 508), (Value.int 12 510, Value.str (Str.ofString "\\\x0c") 514)]
noncomputable def f70 (k : Int) : Option Value := (tab70.find? fun p => Value.isInt k p.1).map (·.2)
theorem findBy_pairs {P : Int → Value → Bool} {es : Array DictEntry} {l : List (Value × Value)} (h : es.toList.map (fun e => (e.key, e.val)) = l) (k : Int) : findBy P es k = (l.find? fun p => P k p.1).map (·.2) := by
  obtain ⟨es⟩ := es
  subst h
  simp only [findBy, List.find?_toArray, List.find?_map, Option.map_map]
  rfl
theorem map70x {w : World} {h : Heap} (X : (hd.heap_39 w.params).In h) : ∃ es : Array DictEntry, h.MapOf (intKind pw w) 70 (fun k => findBy (intKind pw w).is es k) ∧ es.toList.map (fun e => (e.key, e.val)) = tab70 := by
  have h1 := X 70 _ (by k_is)
  refine ⟨_, ⟨_, _, _, h1, ⟨rfl, rfl, rfl⟩, rfl, ?_, fun k => rfl⟩, rfl⟩
  intro e he
  simp only [List.mem_toArray, List.mem_cons, List.not_mem_nil, or_false] at he
  rcases he with rfl | rfl | rfl | rfl | rfl | rfl | rfl | rfl | rfl | rfl | rfl | rfl | rfl | rfl | rfl | rfl | rfl | rfl | rfl | rfl | rfl | rfl | rfl | rfl <;> exact ⟨_, intKind_is pw w _ _, rfl⟩
theorem map70 {w : World} {h : Heap} (X : (hd.heap_39 w.params).In h) : h.MapOf (intKind pw w) 70 f70 := by
  obtain ⟨es, h1, h2⟩ := map70x X
  rw [show f70 = fun k => findBy (intKind pw w).is es k from funext fun k => (findBy_pairs h2 k).symm]
  exact h1
theorem getM_translate {M : Model} {A : Around} {E : Value → Shared → Prop} {s : Shared} {x : Str} {t : Tok} {pl : Sem Bool} {Q : Value × List Value → Shared → Prop} (h : Q (.builtin "str.translate", [.str x t]) s) : wpAny M A (getMethod (.str x t) "translate" pl) Q E s := by
  with_reducible exact GM.of (.str x t) (typeIs_str _ _ _) PySem.F.slot_str_translate PySem.F.type_str_translate GM.noRef h
local macro_rules | `(tactic| walk_at "getMethod str") => `(tactic| (k_here; with_reducible refine getM_translate ?_))
noncomputable def escN (n : Nat) : Str := if n = 32 then Str.ofString "\\ " else if n = 45 then Str.ofString "\\-" else ⟨#[n]⟩
noncomputable def esPlain (n : Nat) : Bool := [97, 98, 34, 114, 119, 120, 100].contains n
set_option maxHeartbeats 2000000 in
theorem es_ct {w : World} {n : Nat} {t1 : Tok} (hn : esPlain n = true ∨ n = 32 ∨ n = 45) : Ct w 690 80 [.str ⟨#[n]⟩ t1] (fun _ => True) (fun v h h' => ∃ t, v = .str (escN n) t) := by
  intro A s E h1 hd hu G hpre
  refine wp_up h1 hd hu ?_
  clear h1 hd hu A
  have X := G.X
  obtain ⟨p, loose, mg, mb, T⟩ := G.T
  refine wpAny_call ?_
  k_dflt (refine' call_plain_ret (binds := [(PySem.Str.ofString "pattern", .str ⟨#[n]⟩ t1)]) ?k8 ?ho ?hd ?hl ?hcd ?hb ?hloc ?_ ?c1 ?c2 ?c3 ?c4; (case ho => exact X 80 _ (by k_is)); (case hd => exact rfl); (case k8 => exact Nat.le_of_ble_eq_true rfl); (case hl => exact T.nolimit); (case hcd => exact codeRec_of X (by k_is)); (case hb => exact rfl); (case hloc => exact locs rfl); (case c1 => exact rfl); (case c2 => exact rfl); (case c3 => exact rfl); (case c4 => decide); k_whole)
  intro h₁ F
  have N := news0 (h₀ := s.heap) (h := h₁) (L := s.heap.objs.size)
  dsimp only
  generalize s.heap.objs.size = L at F N ⊢
  generalize s.toks + _ = tk0
  (try k_fold)
  k_steps
  have MP := map70 (X.keeps F.keep)
  rcases hn with hn | rfl | rfl
  · have hn1 : f70 n = none ∧ n < 128 ∧ escN n = ⟨#[n]⟩ := by
      simp only [esPlain, List.contains_eq_mem, List.mem_cons, List.not_mem_nil, or_false, decide_eq_true_eq] at hn
      rcases hn with rfl | rfl | rfl | rfl | rfl | rfl | rfl <;> exact ⟨rfl, by decide, rfl⟩
    refine call_keep (d := 70) (n := n) (f := f70) MP hn1.1 (by decide) rfl hn1.2.1 fun t' h' tk k => ?_
    (try dsimp only)
    show Ret _ _ _ _
    exact Ret.mk (F.keeps k) rfl ⟨t', by rw [hn1.2.2]⟩
  · refine call_text (d := 70) (n := 32) (f := f70) (u := 484) (a := 92) (b := 32) MP rfl (by decide) fun t' tk => ?_
    (try dsimp only)
    show Ret _ _ _ _
    exact Ret.mk F rfl ⟨t', rfl⟩
  · refine call_text (d := 70) (n := 45) (f := f70) (u := 430) (a := 92) (b := 45) MP rfl (by decide) fun t' tk => ?_
    (try dsimp only)
    show Ret _ _ _ _
    exact Ret.mk F rfl ⟨t', rfl⟩
end Mine
end
section
open PySem PySem.W PyProof.Rows
namespace Mine
theorem re_slot : Slot "re.Pattern" "sub" "re.Pattern.sub" :=
  .of (owner := "re.Pattern") (n := "sub") (by rw [typeLookup_type, builtinLookup_eq_fast]; kernel_rfl) (by decide +kernel) (by decide +kernel) (by decide +kernel)
    (by first | exact .inl (by decide +kernel) | exact .inr (by decide +kernel)) (by rw [isSubtype_type]; kernel_rfl)
theorem re_type : typeOf (.builtin "re.Pattern.sub") = pure (.type "method_descriptor") := by show builtinType _ = _; rw [builtinType_eq_fast]; kernel_rfl
theorem re_entry : entryFor table "re.Pattern.sub" = some Builtin.«re.Pattern.sub» := entryFor_of_tree (by kernel_rfl)
theorem re_entry_loop : entryFor table "re.Pattern.sub.loop" = some Builtin.«re.Pattern.sub.loop» := entryFor_of_tree (by kernel_rfl)
theorem re_args (a b c : Value) : argsOk "re.Pattern.sub" ⟨[a, b, c], []⟩ := by
  unfold argsOk; kernel_rfl
noncomputable def driveN : Nat → Sre.M → Option Sre.M
  | 0, _ => none
  | k + 1, m => if (m.runFor Builtin.Re.reTurnSteps).outcome.isSome then some (m.runFor Builtin.Re.reTurnSteps) else driveN k (m.runFor Builtin.Re.reTurnSteps)
section
variable {prog : Program} {w : World} {A : Around} {E : Value → Shared → Prop} {s : Shared}
theorem re_drive : ∀ (k n : Nat) (m r : Sre.M) {Q : Sre.M → Shared → Prop}, k ≤ n → driveN k m = some r → Q r s → wpAny (model prog w) A (Builtin.Re.reDrive n m) Q E s := by
  intro k
  induction k with
  | zero => intro n m r Q _ h; cases h
  | succ k ih =>
    intro n m r Q hn h hq
    obtain ⟨n, rfl⟩ : ∃ n', n = n' + 1 := ⟨n - 1, by omega⟩
    unfold Builtin.Re.reDrive
    unfold driveN at h
    dsimp only
    by_cases q : (m.runFor Builtin.Re.reTurnSteps).outcome.isSome = true
    · rw [if_pos q] at h ⊢
      cases h
      exact wpAny_pure hq
    · rw [if_neg q] at h ⊢
      exact wpAny_bind (wpAny_rule (ih n _ r (by omega) h hq))
theorem re_end {m r : Sre.M} {k : Nat} {Q : Option Sre.M → Shared → Prop} (hk : k ≤ 2 ^ 64) (h : driveN k m = some r) (ho : r.outcome = some .failed) (hq : Q none s) : wpAny (model prog w) A (Builtin.Re.reRunToEnd m) Q E s := by
  unfold Builtin.Re.reRunToEnd
  refine wpAny_bind (re_drive k _ _ r hk h ?_)
  refine wpAny_bind ?_
  refine wpAny_forIn_list (α := Nat) (β := PUnit) _ (fun _ _ s' => s' = s) _ (fun i rest b s' hs => ?_) (fun b s' hs => ?_) _ _ rfl
  · subst hs
    split
    · exact wpAny_bind (wpAny_rule (wpAny_pure rfl))
    · exact wpAny_pure rfl
  · subst hs
    rw [ho]
    exact wpAny_pure hq
noncomputable def reCode : Array Nat := #[14, 14, 4, 1, 1, 9, 0, 64, 0, 1342177280, 0, 0, 0, 0, 0, 17, 0, 13, 11, 9, 0, 64, 0, 1342177280, 0, 0, 0, 0, 0, 17, 1, 1]
noncomputable def ReDead (x : Str) : Prop := ∃ m, driveN 64 (Sre.forSearch reCode x.cps 1 0 x.cps.size false) = some m ∧ m.outcome = some .failed
theorem dead_of {x : Str} (h : (driveN 64 (Sre.forSearch reCode x.cps 1 0 x.cps.size false)).map (·.outcome) = some (some .failed)) : ReDead x := by
  cases q : driveN 64 (Sre.forSearch reCode x.cps 1 0 x.cps.size false) with
  | none => rw [q] at h; cases h
  | some m => rw [q] at h; exact ⟨m, q, Option.some.inj h⟩
theorem dead1 : ReDead ⟨#[34]⟩ := dead_of (by kernel_rfl)
theorem dead2 : ReDead ⟨#[33, 97]⟩ := dead_of (by kernel_rfl)
theorem dead3 : ReDead ⟨#[33, 34]⟩ := dead_of (by kernel_rfl)
theorem dead4 : ReDead ⟨#[115, 116]⟩ := dead_of (by kernel_rfl)
theorem dead5 : ReDead ⟨#[33, 92, 45]⟩ := dead_of (by kernel_rfl)
structure RePat (h : Heap) (p q : Addr) : Prop where
  pat : ∃ o fs, h.get? p = some o ∧ o.cls = .type "re.Pattern" ∧ o.dict = none ∧ o.data = .fields fs ∧ fs.size = 7 ∧ fs.getD 2 .none = .int 1 0 ∧ fs.getD 5 .none = .ref q ∧ fs.getD 6 .none = .int 0 0
  code : ∃ o items n, h.get? q = some o ∧ o.cls = .type "tuple" ∧ o.data = .seq items n ∧ (items.map Builtin.Re.reRawOf).map (·.toNat) = reCode
theorem RePat.keeps {h h' : Heap} {p q : Addr} (R : RePat h p q) (k : ∀ b o, h.get? b = some o → h'.get? b = some o) : RePat h' p q :=
  ⟨let ⟨o, fs, e, r⟩ := R.pat; ⟨o, fs, k _ _ e, r⟩, let ⟨o, items, n, e, r⟩ := R.code; ⟨o, items, n, k _ _ e, r⟩⟩
noncomputable def reT (p : Addr) (x : Str) (t : Tok) : Builtin.Re.ReTarget := { pattern := .ref p, string := .str x t, code := reCode, text := x.cps, kind := 0, groups := 1, pos := 0, lim := x.cps.size }
theorem re_whole {p q : Addr} {x : Str} {t : Tok} {Q : Builtin.Re.ReTarget → Shared → Prop} (R : RePat s.heap p q) (hq : Q (reT p x t) s) : wpAny (model prog w) A (Builtin.Re.reWholeTarget (.ref p) (.str x t)) Q E s := by
  obtain ⟨⟨o, fs, h1, h2, h3, h4, h5, h6, h7, h8⟩, o', items, n, g1, g2, g3, g4⟩ := R
  have key : ∀ {Q' : Array Int → Shared → Prop} {tk : Tok}, Q' (items.map Builtin.Re.reRawOf) { s with toks := tk } → wpAny (model prog w) A (Builtin.Re.reRawItems (.ref q)) Q' E { s with toks := tk } := fun {Q' tk} hq' => by
    unfold Builtin.Re.reRawItems
    exact wpAny_bind (wpAny_seqItems g1 g3 (wpAny_pure hq'))
  unfold Builtin.Re.reWholeTarget
  refine wpAny_bind ?_
  unfold fieldsOf
  refine wpAny_bind (wpAny_load h1 ?_)
  rw [h4]
  refine wpAny_pure ?_
  rw [h6, h7, h8]
  unfold Builtin.Re.reTextOf Builtin.Re.reNoCollectionInside
  repeat (first | refine key (tk := s.toks) ?_ | wp_step)
  rw [g4]
  exact hq
set_option maxHeartbeats 4000000 in
theorem re_sub {p q f : Addr} {of : Obj} {x : Str} {t : Tok} {Q : Fin → Shared → Prop} (R : RePat s.heap p q) (hf : s.heap.get? f = some of) (hfc : of.cls = .type "function")
    (hQ : ∀ l h' tk, (∀ b o, s.heap.get? b = some o → h'.get? b = some o) → h'.get? l = some { cls := .type "list", data := .seq #[] 0 } → s.heap.get? l = none → Q (.again (.builtin "re.Pattern.sub.loop" ⟨[.ref p, .str x t, .ref f, rawInt 1, rawInt 0, rawInt 0, rawInt 0, rawInt 0, .bool false, .ref l, .bool false], []⟩)) { s with heap := h', toks := tk }) :
    wpAny (model prog w) A (Builtin.«re.Pattern.sub» ⟨[.ref p, .ref f, .str x t], []⟩) Q E s := by
  have hcall : typeLookup (.type "function") (Str.ofString "__call__") = pure (some (.builtin "function.__call__")) := by rw [typeLookup_type, builtinLookup_eq_fast]; kernel_rfl
  have hsub : isSubtype (.type "str") (.type "bytearray") = pure false := by rw [isSubtype_type]; kernel_rfl
  unfold Builtin.«re.Pattern.sub» Builtin.Re.reSubstitute
  repeat (first | with_reducible refine re_whole R ?_ | refine wpAny_of_eq hsub ?_ | (rw [hfc]; refine wpAny_of_eq hcall ?_) | wp_step)
  exact hQ s.heap.objs.size _ _ (fun b o e => Heap.get?_push_of_some _ e) (Heap.get?_push_size _ rfl) (Heap.get?_none_of_le (Nat.le_refl _))
set_option maxHeartbeats 4000000 in
theorem re_loop {p q f l : Addr} {x : Str} {t : Tok} {Q : Fin → Shared → Prop} (R : RePat s.heap p q) (hd : ReDead x) (h0 : 0 < x.length) (hl : s.heap.get? l = some { cls := .type "list", data := .seq #[] 0 })
    (hQ : ∀ h' t' tk, (∀ b o, b ≠ l → s.heap.get? b = some o → h'.get? b = some o) → Q (.done (.ret (.str x t'))) { s with heap := h', toks := tk }) (hsz : x.length ≤ 1000) :
    wpAny (model prog w) A (Builtin.«re.Pattern.sub.loop» ⟨[.ref p, .str x t, .ref f, rawInt 1, rawInt 0, rawInt 0, rawInt 0, rawInt 0, .bool false, .ref l, .bool false], []⟩) Q E s := by
  obtain ⟨m, hm, ho⟩ := hd
  unfold Builtin.«re.Pattern.sub.loop»
  repeat (first | with_reducible refine re_whole R ?_ | (show wpAny _ _ (Builtin.Re.reNextFound _ _ _) _ _ _; refine re_end (k := 64) (by decide) hm ho ?_) | wp_step)
  rw [if_pos (show Int.toNat 0 < (reT p x t).lim from h0)]
  have ex : (⟨(reT p x t).text.extract (Int.toNat 0) (reT p x t).lim⟩ : Str) = x := by
    show (⟨x.cps.extract 0 x.cps.size⟩ : Str) = x
    rw [Array.extract_size]
  have ez : (⟨(reT p x t).text.extract 0 0⟩ : Str) = ⟨#[]⟩ := by
    show (⟨x.cps.extract 0 0⟩ : Str) = ⟨#[]⟩
    simp
  refine wpAny_bind (m := Builtin.Re.reSlice _ _ _ _) ?_
  unfold Builtin.Re.reSlice
  rw [ex, ez]
  refine wpAny_mkStr ?_ (by rw [sizeLine_eq]; omega)
  refine wpAny_bind (wpAny_updateSeq hl rfl ?_)
  have hl2 : (s.heap.update l (Obj.mapSeq (·.push (Value.str x s.toks)))).get? l = some { cls := .type "list", data := .seq #[.str x s.toks] 1 } := Heap.get?_update_self _ hl rfl
  dsimp only
  refine wpAny_bind (@wpAny_mkStr _ _ _ _ (⟨#[]⟩ : Str) _ ?_ (by decide))
  refine wpAny_bind (wpAny_seqItems hl2 rfl ?_)
  rw [if_neg (by simp)]
  refine wpAny_bind (m := call _ _) ?_
  show wpAny _ _ (call (.builtin "str.join") [.str ⟨#[]⟩ _, .ref l]) _ _ _
  refine join_listW (items := #[.str x s.toks]) (ys := [x]) ⟨_, hl2, rfl, 1, rfl⟩ (.cons _ _ .nil) (by decide) (by simp; omega) fun t' k => ?_
  have ej : Txt.join ⟨#[]⟩ [x] = x := by
    simp [Txt.join, Builtin.Str.glued]
  rw [ej]
  repeat wp_step
  exact hQ _ _ _ fun b o hb e => by rw [Heap.get?_update_other _ _ (Ne.symm hb)]; exact e
end
end Mine
end
section
open PySem PySem.W PyProof.Rows
namespace Mine
section
variable {prog : Program} {w : World} {A : Around} {E : Value → Shared → Prop} {s : Shared}
theorem re_quiet {l : List Value} : (Code.builtin "re.Pattern.sub.loop" ⟨l, []⟩).quiet = true := Code.quiet_builtin _ (by decide +kernel)
theorem call_sub {p q f : Addr} {of : Obj} {x : Str} {t : Tok} {Q : Value → Shared → Prop} (R : RePat s.heap p q) (hd : ReDead x) (h0 : 0 < x.length) (hsz : x.length ≤ 1000) (hf : s.heap.get? f = some of) (hfc : of.cls = .type "function")
    (hQ : ∀ t' h' tk, (∀ b o, s.heap.get? b = some o → h'.get? b = some o) → Q (.str x t') { s with heap := h', toks := tk }) : wpAny (model prog w) A (call (.builtin "re.Pattern.sub") [.ref p, .ref f, .str x t]) Q E s := by
  have hT : s.TypeIs (.ref p) "re.Pattern" := by
    obtain ⟨⟨o, fs, h1, h2, _⟩, _⟩ := R
    exact ⟨o, h1, h2⟩
  refine wpAny_call (codeAny_call_builtin re_slot.plain re_entry (re_slot.check _ _ _ _ _ _ _ _ hT (re_args _ _ _) ?_))
  refine re_sub R hf hfc fun l h' tk k hl hn => ?_
  refine ⟨re_quiet, ?_⟩
  refine codeAny_builtin re_entry_loop ?_
  refine re_loop (R.keeps k) hd h0 hl (fun h'' t' tk' k' => ?_) hsz
  refine hQ t' h'' tk' fun b o e => k' b o (fun hb => ?_) (k b o e)
  rw [hb, hn] at e; cases e
theorem re_plainAttrs : PlainAttrs "re.Pattern" :=
  ⟨⟨"object.__getattribute__", by rw [typeLookup_type, builtinLookup_eq_fast]; kernel_rfl, by decide +kernel⟩, by rw [typeLookup_type, builtinLookup_eq_fast]; kernel_rfl⟩
theorem getM_sub {M : Model} {A : Around} {E : Value → Shared → Prop} {s : Shared} {p q : Addr} {pl : Sem Bool} {Q : Value × List Value → Shared → Prop} (R : RePat s.heap p q) (h : Q (.builtin "re.Pattern.sub", [.ref p]) s) : wpAny M A (getMethod (.ref p) "sub" pl) Q E s := by
  obtain ⟨⟨o, fs, h1, h2, h3, _⟩, _⟩ := R
  exact getMethod_builtin (T := "re.Pattern") ⟨o, h1, h2⟩ re_plainAttrs re_slot re_type (fun a e => by cases e; exact ⟨o, h1, h3⟩) h
end
end Mine
end
section
open PySem PySem.W PyProof.Rows
namespace Mine
section
variable {prog : Program} {w : World} {A : Around} {E : Value → Shared → Prop} {s : Shared} {a : Addr} {xs : Array Value} {k : Nat} {sl : Array (Option Value)}
noncomputable abbrev boundApp (a : Addr) : Obj := { cls := .type "builtin_function_or_method", data := .fields #[.builtin "list.append", .ref a] }
theorem app_lookup : typeLookup (.type "list") "append" = pure (some (.builtin "list.append")) := by rw [typeLookup_type, builtinLookup_eq_fast]; kernel_rfl
theorem get_slot : Slot "method_descriptor" "__get__" "method_descriptor.__get__" :=
  .of (owner := "method_descriptor") (n := "__get__") (by rw [typeLookup_type, builtinLookup_eq_fast]; kernel_rfl) (by decide +kernel) (by decide +kernel) (by decide +kernel)
    (by first | exact .inl (by decide +kernel) | exact .inr (by decide +kernel)) (by rw [isSubtype_type]; kernel_rfl)
theorem get_entry : entryFor table "method_descriptor.__get__" = some Builtin.«method_descriptor.__get__» := entryFor_of_tree (by kernel_rfl)
theorem get_args (a b c : Value) : argsOk "method_descriptor.__get__" ⟨[a, b, c], []⟩ := by unfold argsOk; kernel_rfl
set_option maxHeartbeats 1000000 in
theorem get_body {Q : Fin → Shared → Prop} (hx : s.heap.get? a = some { cls := .type "list", dict := none, data := .seq xs k, slots := sl })
    (hQ : Q (.done (.ret (.ref s.heap.objs.size))) { s with heap := s.heap.push (boundApp a) }) :
    wpAny (model prog w) A (Builtin.«method_descriptor.__get__» ⟨[.builtin "list.append", .ref a, .type "list"], []⟩) Q E s := by
  have hT : s.TypeIs (.ref a) "list" := ⟨_, hx, rfl⟩
  unfold Builtin.«method_descriptor.__get__»
  refine wpAny_bind (wpAny_of_eq (a := (.builtin "list.append", some (.ref a), some (.type "list"))) (by first | rfl | kernel_rfl) ?_)
  dsimp only
  repeat wp_step
  rw [show ".".intercalate ("list.append".cutAt '.').dropLast = "list" by kernel_rfl]
  refine wpAny_of_eq (a := true) (by rw [isSubtype_type]; kernel_rfl) ?_
  repeat wp_step
  exact hQ
theorem get_code {R : Result → Shared → Prop} (hx : s.heap.get? a = some { cls := .type "list", dict := none, data := .seq xs k, slots := sl })
    (hR : R (.ok (.ret (.ref s.heap.objs.size))) { s with heap := s.heap.push (boundApp a) }) :
    codeAny (model prog w) A (.call (.builtin "method_descriptor.__get__") ⟨[.builtin "list.append", .ref a, .type "list"], []⟩) R s :=
  codeAny_call_builtin get_slot.plain get_entry (get_slot.check _ _ _ _ _ _ _ _ PySem.F.type_list_append (get_args _ _ _) (get_body hx hR))
end
end Mine
end
section
open PySem PySem.W PyProof.Rows
namespace Mine
section
variable {prog : Program} {w : World} {A : Around} {E : Value → Shared → Prop} {s : Shared} {a : Addr} {xs : Array Value} {k : Nat} {sl : Array (Option Value)}
theorem app_chk {v : Value} {Q : Unit → Shared → Prop} (hx : s.heap.get? a = some { cls := .type "list", dict := none, data := .seq xs k, slots := sl }) (hQ : Q () s) : wpAny (model prog w) A (checkBoundCall "list.append" ⟨[.ref a, v], []⟩) Q E s := by
  have hT : s.TypeIs (.ref a) "list" := ⟨_, hx, rfl⟩
  have bk : builtinKind "list.append" = some .method := by kernel_rfl
  have hs : Manifest.signature? "list.append" = Manifest.sig_list.lookup "append" := by rw [signature?_of (id := "list.append") (n := ['d', 'n', 'e', 'p', 'p', 'a']) (o := ['t', 's', 'i', 'l']) (by kernel_rfl) PySem.F.owner_list]; rfl
  have hs2 : Manifest.sig_list.lookup "append" = some ((⟨.oneArg, "list.append", "append", .self, [⟨"object", .posOnly, true⟩]⟩ : Manifest.Signature)) := by kernel_rfl
  have hmod : isSubtype (.type "list") (.type "module") = pure false := by rw [isSubtype_type]; kernel_rfl
  have htt : isSubtype (.type "list") (.type "type") = pure false := by rw [isSubtype_type]; kernel_rfl
  unfold checkBoundCall
  rw [hs, hs2, bk]
  dsimp only
  rw [if_neg (by decide)]
  refine wpAny_bind (wpAny_isInstance hT hmod ?_)
  rw [if_neg (by rw [Bool.or_false]; decide +kernel)]
  refine wpAny_bind ?_
  unfold isType
  have hck : ∀ n : String, n = "list.append" → Bind.checkArgs "list.append" { (⟨.oneArg, "list.append", "append", .self, [⟨"object", .posOnly, true⟩]⟩ : Manifest.Signature) with full := n } ⟨[.ref a, v], []⟩ = pure () := fun n e => by subst e; kernel_rfl
  repeat (first | refine wpAny_of_eq htt ?_ | refine wpAny_of_eq (hck _ (by decide +kernel)) ?_ | wp_step)
  exact hQ
theorem app_call {x : Addr} {v : Value} {Q : Value → Shared → Prop} (hb : s.heap.get? x = some (boundApp a)) (hx : s.heap.get? a = some { cls := .type "list", data := .seq xs k }) (hsz : xs.size ≤ sizeLine)
    (h : ∀ h', Heap.SameBut a s.heap h' → h'.get? a = some { cls := .type "list", data := .seq (xs.push v) (k + 1) } → Q .none { s with heap := h' }) : wpAny (model prog w) A (call (.ref x) [v]) Q E s := by
  refine wpAny_call (codeAny_of_tree ?_)
  show wpAny _ A.in1 (callAny (.ref x) ⟨[v], []⟩) _ _ s
  simp only [callAny]
  refine wpAny_bind (wpAny_load hb ?_)
  simp only [show (Value.type "builtin_function_or_method" == Value.type "method" || Value.type "builtin_function_or_method" == Value.type "builtin_function_or_method" || Value.type "builtin_function_or_method" == Value.type "method-wrapper") = true by decide, if_true]
  refine KFB.if_so (by decide) ?_
  refine wpAny_bind (app_chk hx ?_)
  refine wpAny_bind (wpAny_pure (wpAny_pure ?_))
  refine ⟨Code.quiet_builtin _ (by decide +kernel), codeAny_builtin PySem.F.entry_list_append ?_⟩
  show wpAny _ _ (updateSeq a (·.push v) >>= fun _ => ret .none) _ _ s
  refine wpAny_bind (wpAny_updateSeq hx rfl (wpAny_pure ?_))
  exact h _ (Heap.SameBut.update ..) (by rw [Heap.get?_update_self _ hx (by rw [mapSeq_push]; rfl), mapSeq_push])
set_option maxHeartbeats 2000000 in
theorem ga_body {u : Tok} {Q : Fin → Shared → Prop} (hx : s.heap.get? a = some { cls := .type "list", dict := none, data := .seq xs k, slots := sl })
    (hQ : Q (.done (.ret (.ref s.heap.objs.size))) { s with heap := s.heap.push (boundApp a) }) :
    wpAny (model prog w) A (Builtin.«object.__getattribute__» ⟨[.ref a, .str "append" u], []⟩) Q E s := by
  obtain ⟨hp, g, d, tk, os⟩ := s
  have hT : (⟨hp, g, d, tk, os⟩ : Shared).TypeIs (.ref a) "list" := ⟨_, hx, rfl⟩
  have h1 := app_lookup
  have bk : builtinKind "list.append" = some .method := by kernel_rfl
  have hget : typeLookup (.type "method_descriptor") (Str.ofString "__get__") = pure (some (.builtin "method_descriptor.__get__")) := by rw [typeLookup_type, builtinLookup_eq_fast]; kernel_rfl
  have hset : typeLookup (.type "method_descriptor") (Str.ofString "__set__") = pure none := by rw [typeLookup_type, builtinLookup_eq_fast]; kernel_rfl
  have hdel : typeLookup (.type "method_descriptor") (Str.ofString "__delete__") = pure none := by rw [typeLookup_type, builtinLookup_eq_fast]; kernel_rfl
  unfold Builtin.«object.__getattribute__»
  repeat (any_goals (first | assumption | (rw [bk]; refine wpAny_of_eq hget ?_) | (rw [bk]; refine wpAny_of_eq hset ?_) | (rw [bk]; refine wpAny_of_eq hdel ?_) | wp_step))
  exact get_code hx (wpAny_pure hQ)
set_option maxHeartbeats 2000000 in
theorem ga_append {Q : Value → Shared → Prop} (hx : s.heap.get? a = some { cls := .type "list", data := .seq xs k })
    (hQ : ∀ tk, Q (.ref s.heap.objs.size) { s with heap := s.heap.push (boundApp a), toks := tk }) : wpAny (model prog w) A (getAttr (.ref a) "append" true) Q E s := by
  obtain ⟨hp, g, d, tk, os⟩ := s
  have hT : ∀ tk', (⟨hp, g, d, tk', os⟩ : Shared).TypeIs (.ref a) "list" := fun _ => ⟨_, hx, rfl⟩
  have f3 := PySem.F.slot_list_getattribute.lookup
  have f4 := PySem.F.slot_list_getattribute.bind (.ref a)
  have f5 := am_list_getattr_none
  unfold getAttr getAttrBy
  repeat (any_goals (first | assumption | exact hT _ | ((with_reducible show wpAny _ _ (call (Value.builtin "list.__getattribute__") _ _) _ _ _); refine wpAny_call_entry PySem.F.slot_list_getattribute (hT _) am_entry_list_getattribute (ga_body hx ⟨_, rfl, ?_⟩) (PySem.F.args_list_getattribute_2 _ _)) | wp_step))
  exact hQ _
end
end Mine
end
section
open PySem PySem.W PyProof.Rows PySem.Calls
namespace Mine
section
variable {prog : Program} {w : World} {A : Around} {E : Value → Shared → Prop} {s : Shared} {a : Addr} {xs : Array Value} {k : Nat} {h₀ : Heap} {L : Addr} {m : Str → Option Value} {news : List (Addr × Obj)}
theorem gaN {Q : Value → Shared → Prop} (F : Fr h₀ L s.heap m) (N : News h₀ L s.heap news) (hm : (a, W.listOf xs k) ∈ news)
    (h : ∀ x h' tk, Fr h₀ L h' m → News h₀ L h' ((x, boundApp a) :: news) → (∀ p ∈ news, p.1 < x) → Q (.ref x) { s with heap := h', toks := tk }) : wpAny (model prog w) A (getAttr (.ref a) (Str.ofString "append") true) Q E s :=
  ga_append (N.get hm) fun tk => h _ _ tk (F.push _) (News.push F N _) fun p hp => Heap.lt_size (N p hp).1
theorem callWith_app {pos : Pos} {u : Addr} {env : Env} {e : PySem.Expr} {Q : Value → Shared → Prop}
    (h : wpAny (model prog w) A (spliced (backTo pos (starEach [e] env))) (fun vs s₁ => s₁.heap.get? u = some (boundApp a) ∧ wpAny (model prog w) A (call (.ref u) vs) Q E s₁) E s)
    (he : starEach [e] env = [(false, eval e env)] := by rfl) :
    wpAny (model prog w) A (callWith pos (.ref u) [] (backTo pos (starEach [e] env)) []) Q E s := by
  rw [he] at h ⊢
  unfold callWith
  refine wpAny_bind (wpAny_holding (wpAny_mono (evalArgs_plain (Q := fun y s₁ => s₁.heap.get? u = some (boundApp a) ∧ wpAny (model prog w) A (call (.ref u) y.pos y.kw) Q E s₁) h) (fun x s₁ h₁ => wpAny_bind (wpAny_standAt ?_)) fun _ _ x => x))
  obtain ⟨ho, hcall⟩ := h₁
  have hp : ((backTo pos [(false, eval e env)]).any (·.1)) = false := rfl
  simp only [hp, List.any_nil, Bool.or_false]
  refine wpAny_bind (m := keeperOf (.ref u)) ?_
  unfold keeperOf
  refine wpAny_bind (wpAny_load ho ?_)
  simp only [show (Value.type "builtin_function_or_method" != Value.type "method") = true by decide, show (Value.type "builtin_function_or_method" == Value.type "builtin_function_or_method" || Value.type "builtin_function_or_method" == Value.type "method-wrapper") = true by decide, if_true]
  refine wpAny_pure ?_
  exact wpAny_bind (wpAny_mono hcall (fun r s₂ hr => wpAny_bind (wpAny_holding (wpAny_point (wpAny_pure hr)))) fun _ _ x => x)
end
end Mine
end
section
open PySem PySem.W PyProof.Rows
namespace Mine
/-- the items' kinds -/
noncomputable def kindL : List Str := [⟨#[42]⟩, ⟨#[63]⟩, ⟨#[97]⟩, ⟨#[98]⟩, ⟨#[34]⟩, ⟨#[114]⟩, ⟨#[119]⟩, ⟨#[120]⟩, ⟨#[100]⟩, ⟨#[32]⟩, ⟨#[45]⟩, ⟨#[91, 34, 93]⟩, ⟨#[91, 33, 97, 93]⟩, ⟨#[91, 33, 34, 93]⟩, ⟨#[91, 115, 116, 93]⟩, ⟨#[91, 33, 45, 93]⟩]
noncomputable def partK (k : Str) : Str := match k.cps.toList with
  | [63] => ⟨#[46]⟩
  | [n] => escN n
  | [91, 34, 93] => ⟨#[91, 34, 93]⟩
  | [91, 33, 97, 93] => ⟨#[91, 94, 97, 93]⟩
  | [91, 33, 34, 93] => ⟨#[91, 94, 34, 93]⟩
  | [91, 115, 116, 93] => ⟨#[91, 115, 116, 93]⟩
  | _ => ⟨#[91, 94, 92, 45, 93]⟩
noncomputable def addPart (ps : List (Option Str)) (k : Str) : List (Option Str) := if k = ⟨#[42]⟩ then (if ps.getLast? = some none then ps else ps ++ [none]) else ps ++ [some (partK k)]
noncomputable def partsOf (ks : List Str) : List (Option Str) := ks.foldl addPart []
noncomputable def cat : List Str → Str
  | [] => ⟨#[]⟩
  | k :: r => k ++ cat r
/-- the parts as they lie -/
inductive Parts (st : Addr) : List Value → List (Option Str) → Prop
  | nil : Parts st [] []
  | star {vs ps} : Parts st vs ps → Parts st (.ref st :: vs) (none :: ps)
  | txt {p : Str} {t : Tok} {vs ps} : Parts st vs ps → Parts st (.str p t :: vs) (some p :: ps)
theorem Parts.snoc_star {st : Addr} {vs ps} (h : Parts st vs ps) : Parts st (vs ++ [.ref st]) (ps ++ [none]) := by
  induction h with
  | nil => exact .star .nil
  | star _ ih => exact .star ih
  | txt _ ih => exact .txt ih
theorem Parts.snoc_txt {st : Addr} {p : Str} {t : Tok} {vs ps} (h : Parts st vs ps) : Parts st (vs ++ [.str p t]) (ps ++ [some p]) := by
  induction h with
  | nil => exact .txt .nil
  | star _ ih => exact .star ih
  | txt _ ih => exact .txt ih
theorem Parts.length {st : Addr} {vs ps} (h : Parts st vs ps) : vs.length = ps.length := by
  induction h with
  | nil => rfl
  | star _ ih => simp [ih]
  | txt _ ih => simp [ih]
theorem Parts.last {st : Addr} {vs ps} (h : Parts st vs ps) : (vs = [] ∧ ps = []) ∨ (∃ vs' ps', vs = vs' ++ [.ref st] ∧ ps = ps' ++ [none]) ∨ (∃ vs' ps' p t, vs = vs' ++ [.str p t] ∧ ps = ps' ++ [some p]) := by
  induction h with
  | nil => exact .inl ⟨rfl, rfl⟩
  | @star vs ps _ ih =>
    right
    rcases ih with ⟨rfl, rfl⟩ | ⟨vs', ps', rfl, rfl⟩ | ⟨vs', ps', p, t, rfl, rfl⟩
    · exact .inl ⟨[], [], rfl, rfl⟩
    · exact .inl ⟨.ref st :: vs', none :: ps', rfl, rfl⟩
    · exact .inr ⟨.ref st :: vs', none :: ps', p, t, rfl, rfl⟩
  | @txt q u vs ps _ ih =>
    right
    rcases ih with ⟨rfl, rfl⟩ | ⟨vs', ps', rfl, rfl⟩ | ⟨vs', ps', p, t, rfl, rfl⟩
    · exact .inr ⟨[], [], q, u, rfl, rfl⟩
    · exact .inl ⟨.str q u :: vs', some q :: ps', rfl, rfl⟩
    · exact .inr ⟨.str q u :: vs', some q :: ps', p, t, rfl, rfl⟩
theorem cat_len : ∀ (ks : List Str), (cat ks).length = (ks.map (·.length)).sum
  | [] => rfl
  | k :: r => by
    show (k ++ cat r).length = _
    rw [Str.length_append, cat_len r]
    rfl
theorem item_mid {a k b : Str} {d n : Nat} (h : k.cps[d]? = some n) : Txt.item (a ++ (k ++ b)) ((a.length : Int) + d) = ⟨#[n]⟩ := by
  refine item_meets (by omega) ?_
  have hd : d < k.cps.size := (Array.getElem?_eq_some_iff.mp h).1
  show (a.cps ++ (k.cps ++ b.cps))[((a.cps.size : Int) + d).toNat]? = some n
  rw [show ((a.cps.size : Int) + d).toNat = a.cps.size + d by omega, Array.getElem?_append_right (by omega), show a.cps.size + d - a.cps.size = d by omega, Array.getElem?_append_left hd, h]
end Mine
end
section
open PySem PySem.W PyProof.Rows PySem.Calls
namespace Mine
section
variable {prog : Program} {w : World} {A : Around} {E : Value → Shared → Prop} {s : Shared} {a : Addr} {xs : Array Value} {h₀ : Heap} {L : Addr} {m mg : Str → Option Value} {news : List (Addr × Obj)} {g : Obj → List (Addr × Obj)}
/-- the builtins of the main module stand -/
noncomputable def BMain (mg : Str → Option Value) (h : Heap) : Prop := ∃ bm ob, mg "__builtins__" = some (.ref bm) ∧ bm ≠ builtinsNs ∧ h.get? bm = some ob ∧ ob.cls = .type "module" ∧ ob.dict = some builtinsNs ∧ ob.data = .plain
theorem BMain.at {P : Addr} (b : BMain mg h₀) (hgs : h₀.Ns mainGlobals mg) (F : Fr h₀ L s.heap m) (hP : h₀.get? P = none) : s.heap.BuiltinsAt mg P := by
  obtain ⟨bm, ob, b1, b2, b3, b4, b5, b6⟩ := b
  refine ⟨bm, ob, b1, b2, fun q => ?_, fun q => ?_, F.keep _ _ b3, b4, b5, b6⟩
  · obtain ⟨o, es, ep, e, hd, _⟩ := hgs
    rw [q, e] at b3; cases b3; rw [hd] at b6; cases b6
  · rw [q, hP] at b3; cases b3
/-- a lambda made: its table may have grown -/
theorem lamU {c P : Addr} {ps : Array Value} {params : Arguments} {body : PySem.Expr} {scope : Scope} {pos : Pos} {env : Env} {clos : List (Str × Addr)} {Q : Value → Shared → Prop}
    (F : Fr h₀ L s.heap m) (N : News h₀ L s.heap news) (U : UpdF P (tabObj ps) news g) (ht : TriplesOk ps.toList) (hgs : h₀.Ns mainGlobals mg) (b : BMain mg h₀) (C : CodeHd h₀ c P)
    (hdef : defaultsOf params env = ([], [])) (hcl : closureFor scope env = pure clos) (hge : env.globals = mainGlobals) (hcode : env.code = .ref c)
    (h : ∀ f of h' tk ps', Fr h₀ L h' m → News h₀ L h' ((f, of) :: g (tabObj ps')) → TriplesOk ps'.toList → of.cls = .type "function" → (∀ p ∈ news, p.1 < f) → Q (.ref f) { s with heap := h', toks := tk }) :
    wpAny (model prog w) A (eval (.Lambda params body scope pos) env) Q E s := by
  obtain ⟨own, rest, rfl, hgr, h1, h2⟩ := U.split
  have hm := N (P, tabObj ps) (List.mem_append_right _ (.head _))
  have hgs' := hgs.keeps F.keep
  have hP := hm.2.2
  have hgP : mainGlobals ≠ P := fun q => by
    obtain ⟨o, es, ep, e, hd, _⟩ := hgs
    rw [q, hP] at e; cases e
  have hb := b.at hgs F hP
  have fresh : ∀ b, s.heap.objs.size ≤ b → h₀.get? b = none := fun b hb => Heap.get?_none_of_le (Nat.le_trans (Nat.le_trans F.above (Nat.le_of_lt F.ns.lt)) hb)
  refine kla_eval hdef ?_
  cases hca : codeAmong pos ps.toList with
  | none =>
    refine kla_makeFunction (mg := mg) hcl hge hgs' hcode (C.keeps F.keep) hm.1 ht hca hgP hb fun c' ctv h' tk hx hgec hlt hrec htb => ?_
    have hLs : L < h'.objs.size := Nat.lt_of_lt_of_le F.ns.lt (Nat.le_trans hgec (Nat.le_of_lt hlt))
    have old : ∀ b o, h₀.get? b = some o → h'.get? b = some o := fun b o e => hx b o (fun q => by rw [q, hP] at e; cases e) (F.keep b o e)
    refine h h'.objs.size (kla_obj "<lambda>" (env.qual ++ "<lambda>") params body scope clos ((mg "__name__").getD .none) c' ctv) _ tk (ps ++ #[rawInt pos.line, rawInt pos.col, .ref c']) ⟨(F.ns.extBut hx hm.2.1.symm).push _, fun b o e => Heap.get?_push_of_some _ (old b o e), F.above⟩ ?n ?t ?c
      (fun q hq => Nat.lt_of_lt_of_le (Heap.lt_size (N q hq).1) (Nat.le_trans hgec (Nat.le_of_lt hlt)))
    case n =>
      intro q hq
      rcases List.mem_cons.mp hq with rfl | hq
      · exact ⟨Heap.get?_push_size _ rfl, Nat.ne_of_gt hLs, fresh _ (Nat.le_trans hgec (Nat.le_of_lt hlt))⟩
      · rw [hgr] at hq
        rcases List.mem_append.mp hq with hq | hq
        · have n := N q (List.mem_append_left _ hq)
          exact ⟨Heap.get?_push_of_some _ (hx _ _ (h1 q hq) n.1), n.2⟩
        · rcases List.mem_cons.mp hq with rfl | hq
          · exact ⟨Heap.get?_push_of_some _ htb, hm.2⟩
          · have n := N q (List.mem_append_right _ (.tail _ hq))
            exact ⟨Heap.get?_push_of_some _ (hx _ _ (h2 q hq) n.1), n.2⟩
    case c => rfl
    case t =>
      rw [show (ps ++ #[rawInt pos.line, rawInt pos.col, Value.ref c']).toList = ps.toList ++ [rawInt pos.line, rawInt pos.col, .ref c'] by simp]
      exact TriplesOk_snoc _ _ _ _ ht
  | some cv =>
    refine kla_makeFunctionHit (mg := mg) hcl hge hgs' hcode (C.keeps F.keep) hm.1 ht hca hb fun ctv h' tk hk hsz => ?_
    have hLs : L < h'.objs.size := Nat.lt_of_lt_of_le F.ns.lt hsz
    refine h h'.objs.size { cls := .type "function", data := .func (kla_fn "<lambda>" (env.qual ++ "<lambda>") params body scope clos ((mg "__name__").getD .none) cv ctv) } _ tk ps ⟨(F.ns.keeps hk).push _, fun b o e => Heap.get?_push_of_some _ (hk b o (F.keep b o e)), F.above⟩ ?n2 ht ?c2 (fun q hq => Nat.lt_of_lt_of_le (Heap.lt_size (N q hq).1) hsz)
    case n2 =>
      intro q hq
      rcases List.mem_cons.mp hq with rfl | hq
      · exact ⟨Heap.get?_push_size _ rfl, Nat.ne_of_gt hLs, fresh _ hsz⟩
      · rw [hgr] at hq
        exact ⟨Heap.get?_push_of_some _ (hk _ _ (N q hq).1), (N q hq).2⟩
    case c2 => rfl
end
end Mine
end
section
open PySem PySem.W PyProof.Rows PySem.Calls
namespace Mine
section
variable {prog : Program} {w : World} {A : Around}
/-- what a generator of one item hands out -/
noncomputable def oneP (C : Addr) (fp wr : List Addr) (F : Value → Prop) : Protocol := fun _ s₀ v s kap =>
  F v ∧ GenSince C wr s₀ s ∧ ∀ s'' : Shared, (∀ b ∈ C :: fp, ∀ o, s.heap.get? b = some o → s''.heap.get? b = some o) → kap (.send .none) s''
noncomputable abbrev oneE (C : Addr) (wr : List Addr) : GenEnd := fun n s₀ r s₁ => r = .ok .next ∧ (n = 0 ∧ GenSince C wr s₀ s₁)
variable {elt iter : PySem.Expr} {x : Str} {px : Pos} {scope : Scope} {pos : Pos} {I : Addr} {fp wr : List Addr} {P : Nat → Value → Prop} {St₀ : Nat → Heap → Prop} {cenv : Env} {F : Value → Prop}
theorem seg_last (hh : A.handled = none) (W₀ : ∀ A' : Around, A'.handled = none → Walks prog w A' I fp wr 1 P St₀) {s₀ s : Shared} (hst : St₀ 1 s.heap) (hs : GenSince cenv.locals wr s₀ s) :
    Seg (model prog w) A (oneE cenv.locals wr) (oneP cenv.locals fp wr F) 0 s₀ (.compLoop (.GeneratorExp elt [⟨.Name x px, iter, [], 0⟩] scope pos) 0 (.ref I) .none cenv)
      ((model prog w).den (.compLoop (.GeneratorExp elt [⟨.Name x px, iter, [], 0⟩] scope pos) 0 (.ref I) .none cenv)) [] s := by
  have hh' : (A.over (.compLoop (.GeneratorExp elt [⟨.Name x px, iter, [], 0⟩] scope pos) 0 (.ref I) .none cenv) []).handled = none := hh
  show Seg _ A _ _ _ s₀ _ ((compTurn (.GeneratorExp elt [⟨.Name x px, iter, [], 0⟩] scope pos) 0 (.ref I) .none cenv).onRaise (leaving cenv)) [] s
  rw [compTurn_gen, Sem.onRaise_eq_wrap]
  refine seg_bind_wrap (wpAny_standAt ?_)
  refine seg_bind_wrap ((W₀ _ hh').done s _ _ hst fun h' tk hk' => ?_)
  exact seg_end (.ok .next) ⟨rfl, rfl, hs.step fun b o _ hw e => hk' b o hw e⟩
theorem seg_first (hh : A.handled = none) (W₀ : ∀ A' : Around, A'.handled = none → Walks prog w A' I fp wr 1 P St₀) {s₀ s : Shared} {m : Str → Option Value} (hst : St₀ 0 s.heap) (hn : s.heap.Ns cenv.locals m) (hs : GenSince cenv.locals wr s₀ s) (ht : 0 < s.toks)
    (hx : cenv.kindOf x = some .local) (hp : (cenv.scope.kind == .class || (cenv.scope.kind == .module && cenv.locals != cenv.globals)) = false) (hco : cenv.scope.isCoroutine = false) (hCf : cenv.locals ∉ fp)
    (hq : ∀ (A' : Around) E' v (s₂ : Shared) m₂, A'.handled = none → P 0 v → 0 < s₂.toks → s₂.heap.Ns cenv.locals m₂ → m₂ x = some v → wpAny (model prog w) A' (eval elt cenv) (fun y s₃ => F y ∧ Keeps s₂ s₃) E' s₂) :
    Seg (model prog w) A (oneE cenv.locals wr) (oneP cenv.locals fp wr F) 1 s₀ (.compLoop (.GeneratorExp elt [⟨.Name x px, iter, [], 0⟩] scope pos) 0 (.ref I) .none cenv)
      ((model prog w).den (.compLoop (.GeneratorExp elt [⟨.Name x px, iter, [], 0⟩] scope pos) 0 (.ref I) .none cenv)) [] s := by
  have hh' : (A.over (.compLoop (.GeneratorExp elt [⟨.Name x px, iter, [], 0⟩] scope pos) 0 (.ref I) .none cenv) []).handled = none := hh
  have hCw : cenv.locals ∉ wr := fun h => hCf ((W₀ A hh).sub _ h)
  show Seg _ A _ _ _ s₀ _ ((compTurn (.GeneratorExp elt [⟨.Name x px, iter, [], 0⟩] scope pos) 0 (.ref I) .none cenv).onRaise (leaving cenv)) [] s
  rw [compTurn_gen, Sem.onRaise_eq_wrap]
  refine seg_bind_wrap (wpAny_standAt ?_)
  refine seg_bind_wrap (wp_tk' ht ((W₀ _ hh').item 0 s _ _ (by omega) hst fun v h₁ tk₁ hPv hst₁ hk₁ ht₁ => ?_))
  refine seg_bind_wrap (wpAny_of_eq (rfl : letOwnedTupleGo (.Name x px) (.ref I) v = pure ()) ?_)
  refine seg_bind_wrap (wp_tk' ht₁ (wpAny_assign_Name (wpAny_storeName_local hx (hn.at' fun o e => hk₁ _ o hCw e) (fun h₂ hn₂ hs₂ ht₂ => ?_) hp)))
  have up₂ : ∀ b o, b ≠ cenv.locals → b ∉ wr → s.heap.get? b = some o → h₂.get? b = some o := fun b o hbC hbw e => hs₂.extBut b o hbC (hk₁ b o hbw e)
  have hst₂ : St₀ 1 h₂ := (W₀ A hh).frame _ _ _ hst₁ fun b hb o e => hs₂.extBut b o (fun h => hCf (h ▸ hb)) e
  refine seg_bind_wrap (wpAny_tests_nil ?_)
  simp only [if_true]
  have hy : ∀ v, yieldOut cenv v = yieldValue v := fun v => by simp only [yieldOut, hco, Bool.false_eq_true, if_false]
  simp only [hy]
  rw [Sem.bind_eq_wrap', Sem.bind_eq_wrap', Sem.wrap_wrap, Sem.wrap_wrap]
  refine seg_wrap (wpAny_mono (hq _ _ v _ _ hh' hPv ht₂ hn₂ (by simp)) (fun y s₄ h₄ => ?_) fun _ _ e => e)
  obtain ⟨hFy, h₄, tk₄, rfl, hk₄⟩ := h₄
  refine seg_at (seg_yield rfl rfl rfl ⟨hFy, hs.step fun b o hbC hbw e => hk₄ b o (up₂ b o hbC hbw e), fun s'' hal => ?_⟩)
  refine seg_again rfl (seg_last hh W₀ ((W₀ A hh).frame _ _ _ hst₂ fun b hb o e => hal b (List.mem_cons_of_mem _ hb) o (hk₄ b o e)) (GenSince.refl _ _ _))
end
end Mine
end
section
open PySem PySem.W PyProof.Rows PySem.Calls
namespace Mine
section
variable {prog : Program} {w : World} {A : Around}
variable {elt iter : PySem.Expr} {x : Str} {px : Pos} {scope : Scope} {pos : Pos} {I : Addr} {fp wr : List Addr} {P : Nat → Value → Prop} {St₀ : Nat → Heap → Prop} {cenv : Env} {F : Value → Prop}
theorem seg_start (hh : A.handled = none) (W₀ : ∀ A' : Around, A'.handled = none → Walks prog w A' I fp wr 1 P St₀) {s₀ s : Shared} {m : Str → Option Value} (hst : St₀ 0 s.heap) (hn : s.heap.Ns cenv.locals m) (hs : GenSince cenv.locals wr s₀ s) (ht : 0 < s.toks)
    (hx : cenv.kindOf x = some .local) (hp : (cenv.scope.kind == .class || (cenv.scope.kind == .module && cenv.locals != cenv.globals)) = false) (hco : cenv.scope.isCoroutine = false) (hCf : cenv.locals ∉ fp)
    (hq : ∀ (A' : Around) E' v (s₂ : Shared) m₂, A'.handled = none → P 0 v → 0 < s₂.toks → s₂.heap.Ns cenv.locals m₂ → m₂ x = some v → wpAny (model prog w) A' (eval elt cenv) (fun y s₃ => F y ∧ Keeps s₂ s₃) E' s₂) :
    Seg (model prog w) A (oneE cenv.locals wr) (oneP cenv.locals fp wr F) 1 s₀ (.compStart (.GeneratorExp elt [⟨.Name x px, iter, [], 0⟩] scope pos) 0 (.ref I) .none cenv)
      ((model prog w).den (.compStart (.GeneratorExp elt [⟨.Name x px, iter, [], 0⟩] scope pos) 0 (.ref I) .none cenv)) [] s := by
  have hh' : (A.over (.compStart (.GeneratorExp elt [⟨.Name x px, iter, [], 0⟩] scope pos) 0 (.ref I) .none cenv) []).handled = none := hh
  have loop := seg_first (iter := iter) (px := px) (scope := scope) (pos := pos) hh W₀ hst hn hs ht hx hp hco hCf hq
  show Seg _ A _ _ _ s₀ _ ((compStart (.GeneratorExp elt [⟨.Name x px, iter, [], 0⟩] scope pos) 0 (.ref I) .none cenv).onRaise (leaving cenv)) [] s
  unfold compStart
  rw [Sem.onRaise_eq_wrap]
  show Seg _ A _ _ _ s₀ _ ((ask >>= _).wrap _ _ _ _) [] s
  refine seg_bind_wrap (wpAny_askSetting ?_)
  split
  · exact seg_again rfl loop
  · refine seg_bind_wrap (wpAny_rule ?_)
    show Seg _ A _ _ _ s₀ _ ((standAt iter.pos >>= _).wrap _ _ _ _) [] s
    exact seg_bind_wrap (wpAny_standAt (seg_bind_wrap ((W₀ _ hh').self 0 s _ _ hst (seg_again rfl loop))))
/-- how a generator of one item stands -/
noncomputable def OneSt (prog : Program) (w : World) (A : Around) (a : Addr) (g : Nat) (cenv : Env) (elt iter : PySem.Expr) (x : Str) (px : Pos) (scope : Scope) (pos : Pos) (I : Addr) (fp wr : List Addr) (St₀ : Nat → Heap → Prop) (F : Value → Prop) (i : Nat) (s : Shared) : Prop :=
  s.heap.IsGen a g ∧ s.heap.NoLimit ∧ match i with
    | 0 => 0 < s.toks ∧ s.gens[g]? = some (.fresh (.compStart (.GeneratorExp elt [⟨.Name x px, iter, [], 0⟩] scope pos) 0 (.ref I) .none cenv)) ∧ St₀ 0 s.heap ∧ ∃ m, s.heap.Ns cenv.locals m
    | 1 => ∃ gs, s.gens[g]? = some gs ∧ ∀ s'' : Shared, (∀ b ∈ cenv.locals :: fp, ∀ o, s.heap.get? b = some o → s''.heap.get? b = some o) → gs.Goes (model prog w) A.in1 (oneE cenv.locals wr) (oneP cenv.locals fp wr F) 0 (.send .none) s''
    | _ => False
theorem one_walks (hh : A.handled = none) {a : Addr} {g : Nat} (W₀ : ∀ A' : Around, A'.handled = none → Walks prog w A' I fp wr 1 P St₀)
    (haC : a ≠ cenv.locals) (haf : a ∉ fp) (hsub : ∀ b ∈ wr, b ∈ fp) (hroom : A.depth < recursionLimit) (hcs : cStatics ∈ fp) (hcC : cStatics ≠ cenv.locals) (hcw : cStatics ∉ wr)
    (hx : cenv.kindOf x = some .local) (hp : (cenv.scope.kind == .class || (cenv.scope.kind == .module && cenv.locals != cenv.globals)) = false) (hco : cenv.scope.isCoroutine = false) (hCf : cenv.locals ∉ fp)
    (hq : ∀ (A' : Around) E' v (s₂ : Shared) m₂, A'.handled = none → P 0 v → 0 < s₂.toks → s₂.heap.Ns cenv.locals m₂ → m₂ x = some v → wpAny (model prog w) A' (eval elt cenv) (fun y s₃ => F y ∧ Keeps s₂ s₃) E' s₂) :
    WalksS prog w A a (a :: cenv.locals :: fp) (cenv.locals :: wr) (GenOnlyQ g) 1 (fun _ y => F y) (OneSt prog w A a g cenv elt iter x px scope pos I fp wr St₀ F) where
  sub := fun b hb => by
    rcases List.mem_cons.mp hb with rfl | hb
    · simp
    · exact List.mem_cons_of_mem _ (List.mem_cons_of_mem _ (hsub b hb))
  grefl := fun _ => .inl rfl
  gtrans := fun _ _ _ x y => x.trans y
  frame := fun i s h' tk st htk hk => by
    obtain ⟨h1, h2, h3⟩ := st
    refine ⟨let ⟨o, nm, qn, ho, r⟩ := h1; ⟨o, nm, qn, hk a (List.mem_cons_self ..) o ho, r⟩, (let ⟨mc, hns, hnn⟩ := h2; ⟨mc, hns.at' fun o e => hk cStatics (List.mem_cons_of_mem _ (List.mem_cons_of_mem _ hcs)) o e, hnn⟩), ?_⟩
    match i with
    | 0 =>
      obtain ⟨a1, a2, a3, m, a4⟩ := h3
      exact ⟨Nat.lt_of_lt_of_le a1 htk, a2, (W₀ A hh).frame _ _ _ a3 fun b hb o e => hk b (List.mem_cons_of_mem _ (List.mem_cons_of_mem _ hb)) o e, m, a4.at' fun o e => hk _ (by simp) o e⟩
    | 1 =>
      obtain ⟨gs, hgs, hgo⟩ := h3
      exact ⟨gs, hgs, fun s'' hal => hgo s'' fun b hb o e => hal b hb o (hk b (List.mem_cons_of_mem _ hb) o e)⟩
    | n + 2 => exact h3.elim
  item := fun j s Q E hj st hQ => by
    obtain rfl : j = 0 := by omega
    obtain ⟨hg, hl, ht, hgs, hst, m, hn⟩ := st
    refine wpAny_with_toks (Nat.le_refl s.toks) ?_
    refine wpAny_pyNext_genexpQ (P := fun n s₀ s₁ => n = 0 ∧ GenSince cenv.locals wr s₀ s₁) (n := 1) (Y := oneP cenv.locals fp wr F) hh hl hroom hg hgs ?_ (fun v s₁ gs' hb hv => ?_) (fun s₁ hp h' hk => ?_)
    · exact ⟨rfl, seg_start (A := A.in1) hh W₀ hst hn (GenSince.refl _ _ _) ht hx hp hco hCf hq⟩
    · obtain ⟨hF, ⟨h₁, tk₁, rfl, hk₁⟩, hkap⟩ := hv
      have haw : a ∉ wr := fun h => haf (hsub a h)
      intro htk
      exact hQ v _ hF ⟨let ⟨o, nm, qn, ho, r⟩ := hg; ⟨o, nm, qn, hk₁ a o haC haw ho, r⟩, (let ⟨mc, hns, hnn⟩ := hl; ⟨mc, hns.at' fun o e => hk₁ cStatics o hcC hcw e, hnn⟩), gs', setGen_self (gs := .running) (setGen_self hgs), fun s'' hal => hkap s'' hal⟩
        ⟨fun b o hb e => hk₁ b o (fun h => hb (h ▸ List.mem_cons_self ..)) (fun h => hb (List.mem_cons_of_mem _ h)) e, GenOnlyQ.of ((GenOnly.setGen s g .running).trans (GenOnly.setGen _ g gs')) (setGen_self (gs := .running) (setGen_self hgs)) hb, rfl, rfl, htk⟩
    · exact absurd hp.1 (by omega)
  done := fun s Q E st hQ => by
    obtain ⟨hg, hl, gs, hgs, hgo⟩ := st
    refine wpAny_with_toks (Nat.le_refl s.toks) ?_
    refine wpAny_pyNext_genexpQ (P := fun n s₀ s₁ => n = 0 ∧ GenSince cenv.locals wr s₀ s₁) (n := 0) (Y := oneP cenv.locals fp wr F) hh hl hroom hg hgs (hgo _ fun _ _ _ e => e) (fun v s₁ gs' hb hv => ?_) (fun s₁ hp h' hk => ?_)
    · obtain ⟨_, _, hkap⟩ := hv
      exact False.elim (hkap s₁ fun _ _ _ e => e)
    · obtain ⟨_, h₁, tk₁, rfl, hk₁⟩ := hp
      intro htk
      exact hQ _ ⟨fun b o hb e => hk b o (hk₁ b o (fun h => hb (h ▸ List.mem_cons_self ..)) (fun h => hb (List.mem_cons_of_mem _ h)) e), GenOnlyQ.of ((GenOnly.setGen s g .running).trans (GenOnly.setGen _ g .finished)) (setGen_self (gs := .running) (setGen_self hgs)) rfl, rfl, rfl, htk⟩
  self := fun _ _ _ _ st hQ => wpAny_pyIter_gen st.1 hQ
end
end Mine
end
section
open PySem PySem.W PyProof.Rows PySem.Calls
namespace Mine
section
variable {prog : Program} {w : World} {A : Around} {E : Value → Shared → Prop} {s : Shared} {h₀ : Heap} {L : Addr} {m mg : Str → Option Value} {news : List (Addr × Obj)} {g : Obj → List (Addr × Obj)} {P : Addr} {ps : Array Value}
/-- a ledger whose one object has turned -/
theorem turned {h' : Heap} {o' : Obj} (N : News h₀ L s.heap news) (hk : ∀ b o, b ≠ P → s.heap.get? b = some o → h'.get? b = some o) (U : UpdF P (tabObj ps) news g) (ho : h'.get? P = some o') : News h₀ L h' (g o') := by
  obtain ⟨own, rest, rfl, hg, h1, h2⟩ := U.split
  have hm := N (P, tabObj ps) (List.mem_append_right _ (.head _))
  intro q hq
  rw [hg] at hq
  rcases List.mem_append.mp hq with hq | hq
  · have n := N q (List.mem_append_left _ hq)
    exact ⟨hk _ _ (h1 q hq) n.1, n.2⟩
  · rcases List.mem_cons.mp hq with rfl | hq
    · exact ⟨ho, hm.2⟩
    · have n := N q (List.mem_append_right _ (.tail _ hq))
      exact ⟨hk _ _ (h2 q hq) n.1, n.2⟩
theorem gcode {env : Env} {c : Addr} {pos : Pos} {qn : Str} {scope : Scope} {Q : Value → Shared → Prop} (F : Fr h₀ L s.heap m) (N : News h₀ L s.heap news) (U : UpdF P (tabObj ps) news g) (ht : TriplesOk ps.toList) (C : CodeHd h₀ c P) (hcode : env.code = .ref c)
    (hQ : ∀ cv h' tk ps', Fr h₀ L h' m → News h₀ L h' (g (tabObj ps')) → TriplesOk ps'.toList → (∀ b o, b ≠ P → s.heap.get? b = some o → h'.get? b = some o) → Q cv { s with heap := h', toks := tk }) :
    wpAny (model prog w) A (genexprCode env pos qn scope) Q E s := by
  have hmem : (P, tabObj ps) ∈ news := by
    obtain ⟨own, rest, rfl, _⟩ := U.split
    simp
  have hm := N (P, tabObj ps) hmem
  obtain ⟨o, vs, file, tf, flags, tg, inF, text, tt, e1, e2, e3, e4, e5, e6, e7, e8, e9, hne⟩ := C.keeps F.keep
  have fr : ∀ {h' : Heap}, (∀ b o, b ≠ P → s.heap.get? b = some o → h'.get? b = some o) → Fr h₀ L h' m := fun {h'} hk =>
    ⟨F.ns.at' fun o e => hk L o (Ne.symm hm.2.1) e, fun b o e => hk b o (fun q => by rw [q, hm.2.2] at e; cases e) (F.keep b o e), F.above⟩
  unfold genexprCode codeAt
  rw [hcode, if_neg (show ¬ ((Value.ref c == Value.none) = true) from Bool.false_ne_true)]
  refine wpAny_bind (wpAny_fieldsOf e1 e3 ?_)
  rw [e5]
  refine wpAny_bind (wpAny_fieldsOf hm.1 rfl ?_)
  cases hca : codeAmong pos ps.toList with
  | some cv => exact wpAny_pure (hQ cv s.heap s.toks ps F (turned N (fun _ _ _ e => e) U hm.1) ht fun _ _ _ e => e)
  | none =>
    rw [e6, e7, e8, e9]
    refine wpAny_bind (wpAny_newCode fun c' P' h' tk hk _ _ _ _ => ?_)
    have hP' := hk _ _ hm.1
    refine wpAny_bind (wpAny_updateFieldsOfTheText hP' rfl ?_)
    have hnew : Obj.mapFields (fun vs => if (codeAmong pos vs.toList).isSome = true then vs else vs ++ #[rawInt pos.line, rawInt pos.col, .ref c']) (tabObj ps) = tabObj (ps ++ #[rawInt pos.line, rawInt pos.col, .ref c']) := by
      show ({ cls := .none, data := .fields (if (codeAmong pos ps.toList).isSome = true then ps else ps ++ #[rawInt pos.line, rawInt pos.col, .ref c']) } : Obj) = _
      rw [hca]
      rfl
    have hget := Heap.get?_update_self (h := h') (fun o => Obj.mapFields (fun vs => if (codeAmong pos vs.toList).isSome = true then vs else vs ++ #[rawInt pos.line, rawInt pos.col, .ref c']) o) hP' (by rw [hnew]; rfl)
    rw [hnew] at hget
    have hl : (ps ++ #[rawInt pos.line, rawInt pos.col, Value.ref c']).toList = ps.toList ++ [rawInt pos.line, rawInt pos.col, .ref c'] := by simp
    refine wpAny_bind (wpAny_fieldsOf hget rfl ?_)
    rw [hl, codeAmong_snoc _ ht hca]
    have hk2 : ∀ b o, b ≠ P → s.heap.get? b = some o → (h'.update P (Obj.mapFields (fun vs => if (codeAmong pos vs.toList).isSome = true then vs else vs ++ #[rawInt pos.line, rawInt pos.col, .ref c']))).get? b = some o := fun b o hb e => (Heap.SameBut.update ..).extBut b o hb (hk b o e)
    exact wpAny_pure (hQ _ _ _ (ps ++ #[rawInt pos.line, rawInt pos.col, .ref c']) (fr hk2) (turned N hk2 U hget) (by rw [hl]; exact TriplesOk_snoc _ _ _ _ ht) hk2)
end
end Mine
end
section
open PySem PySem.W PyProof.Rows PySem.Calls
namespace Mine
section
variable {prog : Program} {w : World} {A : Around} {E : Value → Shared → Prop} {s : Shared} {h₀ : Heap} {L : Addr} {m mg : Str → Option Value} {news : List (Addr × Obj)} {g : Obj → List (Addr × Obj)} {P : Addr} {ps : Array Value}
theorem join_one {x : Str} : Txt.join x [y] = y := by simp [Txt.join, Builtin.Str.glued]
set_option maxHeartbeats 1000000 in
theorem genU {env : Env} {elt iter : PySem.Expr} {x : Str} {px : Pos} {scope : Scope} {cl : List (Str × Addr)} {pos : Pos} {c ch : Addr} {v out : Str} {tv : Tok} {n : Nat} {Q : Value → Shared → Prop}
    (hh : A.handled = none) (hroom : A.depth < recursionLimit) (F : Fr h₀ L s.heap m) (N : News h₀ L s.heap news) (U : UpdF P (tabObj ps) news g) (ht : TriplesOk ps.toList) (hgs : h₀.Ns mainGlobals mg) (b : BMain mg h₀) (hlim : h₀.NoLimit) (C : CodeHd h₀ c P) (hcode : env.code = .ref c) (hge : env.globals = mainGlobals)
    (hco : scope.isCoroutine = false) (hclos : closureFor scope env = pure cl) (hcell : ∀ y ∈ scope.names, y.2 ≠ .cell) (h0 : scope.names.lookup (".0" : Str) = some NameKind.local) (hx : scope.names.lookup x = some .local) (hkind : scope.kind = .function)
    (hs : ∀ x, genFold iter env x = pure x) (hiter : ∀ {Q' : Value → Shared → Prop} {E' : Value → Shared → Prop}, Q' (.ref ch) s → wpAny (model prog w) A (eval iter env) Q' E' s)
    (hch : (ch, W.listOf #[.str v tv] n) ∈ news) (hcP : ch ≠ P)
    (helt : ∀ (Cl : Addr) (code : Value) (bi : Addr) (A' : Around) (E' : Value → Shared → Prop) (s₂ : Shared) m₂, A'.handled = none → 0 < s₂.toks → s₂.heap.Ns Cl m₂ → m₂ x = some (.str v tv) →
      wpAny (model prog w) A' (eval elt (genEnv scope cl Cl code bi env)) (fun y s₃ => (∃ t, y = .str out t) ∧ Keeps s₂ s₃) E' s₂)
    (hQ : ∀ I s', (∀ {Q' : Value → Shared → Prop} {E' : Value → Shared → Prop} {sep : Str} {u : Tok}, sep.length ≤ 16 → out.length ≤ 1000 →
        (∀ t' h' tk gs ps', Fr h₀ L h' m → News h₀ L h' (g (tabObj ps')) → TriplesOk ps'.toList → (AllBare s.gens → AllBare gs) → Q' (.str out t') { s with heap := h', toks := tk, gens := gs }) →
        wpAny (model prog w) A (call (.builtin "str.join") [.str sep u, .ref I]) Q' E' s') → Q (.ref I) s') :
    wpAny (model prog w) A (eval (.GeneratorExp elt [⟨.Name x px, iter, [], 0⟩] scope pos) env) Q E s := by
  have hl : s.heap.IsList ch #[.str v tv] := ⟨_, N.get hch, rfl, _, rfl⟩
  have hlt : ch < s.heap.objs.size := by obtain ⟨_, e, _⟩ := hl; exact Heap.lt_size e
  have hPn : h₀.get? P = none := by
    obtain ⟨own, rest, rfl, _⟩ := U.split
    exact (N (P, tabObj ps) (by simp)).2.2
  refine wpAny_GeneratorExp_make hco hclos hcell h0 hkind hroom (hiter (wpAny_pyIter_list hl ?_)) hs
  have up : ∀ b o, s.heap.get? b = some o → (s.heap.push { cls := .type "list_iterator", data := .fields #[.ref ch, .int 0 0] }).get? b = some o := fun b o e => Heap.get?_push_of_some _ e
  have F₂ := F.keeps up
  have N₂ := N.grown up
  refine ⟨hlim.keeps F₂.keep, gcode (s := { s with heap := s.heap.push { cls := .type "list_iterator", data := .fields #[.ref ch, .int 0 0] } }) F₂ N₂ U ht C hcode fun cv h₃ tk₃ ps' F₃ N₃ ht₃ hk₃ => ?_⟩
  have hgs₃ := hgs.keeps F₃.keep
  obtain ⟨bm, ob, b1, b2, b3, b4, b5, b6⟩ := b
  refine wpAny_builtinsFor (m := mg) (by rw [hge]; exact hgs₃) b1 b2 (F₃.keep _ _ b3) b4 b5 b6 ?_
  intro h' hn' hs'
  dsimp only at hn' hs' hk₃ ⊢
  have hlim₃ : h₃.NoLimit := hlim.keeps F₃.keep
  have hclt : cStatics < h₃.objs.size := let ⟨_, hn, _⟩ := hlim₃; hn.lt
  have hsz : h'.objs.size = h₃.objs.size + 1 := by rw [hs'.1, Heap.size_push]
  have keep' : ∀ b o, h₃.get? b = some o → h'.get? b = some o := fun b o e => hs'.extBut b o (Nat.ne_of_lt (Heap.lt_size e)) (Heap.get?_push_of_some _ e)
  refine hQ _ _ fun {Q' E' sep u} hsep hout hq => ?_
  have keep₅ : ∀ (o' : Obj) b o, h₃.get? b = some o → (h'.push o').get? b = some o := fun o' b o e => Heap.get?_push_of_some _ (keep' b o e)
  have hPs : P < s.heap.objs.size := by
    obtain ⟨own, rest, rfl, _⟩ := U.split
    exact Heap.lt_size (N (P, tabObj ps) (by simp)).1
  have hIP : s.heap.objs.size ≠ P := Nat.ne_of_gt hPs
  have hI₃ : h₃.get? s.heap.objs.size = some { cls := .type "list_iterator", data := .fields #[.ref ch, .int 0 0] } := hk₃ _ _ hIP (Heap.get?_push_size _ rfl)
  have hIlt : s.heap.objs.size < h₃.objs.size := Heap.lt_size hI₃
  have hl₃ : h₃.IsList ch #[.str v tv] := by
    obtain ⟨o, e, r⟩ := hl
    exact ⟨o, hk₃ _ _ hcP (up _ _ e), r⟩
  have hne : ch ≠ s.heap.objs.size := Nat.ne_of_lt hlt
  have hchlt : ch < h₃.objs.size := Nat.lt_trans hlt hIlt
  have W := one_walks (prog := prog) (w := w) (A := A.in1.in1) (a := h'.objs.size) (g := s.gens.size) (cenv := genEnv scope cl h₃.objs.size cv builtinsNs env) (elt := elt) (iter := iter) (x := x) (px := px) (scope := scope) (pos := pos) (I := s.heap.objs.size)
    (fp := List.range h₃.objs.size) (wr := [s.heap.objs.size]) (P := fun i v' => #[Value.str v tv][i]? = some v') (St₀ := fun i h => h.IsListIter s.heap.objs.size ch i ∧ h.IsList ch #[.str v tv]) (F := fun y => ∃ t, y = .str out t) hh
    (fun A' hA => (Walks.list hA s.heap.objs.size ch hne #[.str v tv]).mono_fp fun b hb => List.mem_range.mpr (by
      rcases List.mem_cons.mp hb with rfl | hb
      · exact hIlt
      · rw [List.mem_singleton.mp hb]; exact hchlt))
    (by show h'.objs.size ≠ h₃.objs.size; omega) (fun hm => by have := List.mem_range.mp hm; omega) (fun b hb => by rw [List.mem_singleton.mp hb]; exact List.mem_range.mpr hIlt) hroom (List.mem_range.mpr hclt) (Nat.ne_of_lt hclt)
    (fun hm => by
      obtain ⟨mc, hns, _⟩ := hlim
      have := F.keep
      obtain ⟨o, es, ep, e, _⟩ := hns
      have hc := Heap.lt_size (F.keep _ _ e)
      rw [List.mem_singleton.mp hm] at hc
      exact Nat.lt_irrefl _ hc)
    hx (by simp [genEnv, hkind]) hco (fun hm => Nat.lt_irrefl _ (List.mem_range.mp hm))
    (fun A' E' v' s₂ m₂ hA hP ht hn hm => helt _ _ _ A' E' s₂ m₂ hA ht hn (hm.trans (by
      have e : Value.str v tv = v' := by simpa using hP
      rw [e])))
  refine SC.joinGen W (fun i s st => st.1.typeIs) ⟨⟨_, _, _, Heap.get?_push_size _ rfl, rfl, rfl, rfl⟩, hlim₃.keeps (keep₅ _), Nat.succ_pos _, Array.getElem?_push_size .., ⟨⟨_, keep₅ _ _ _ hI₃, rfl, rfl⟩, hl₃.at fun o e => keep₅ _ _ _ e⟩, _, hn'.push _⟩ ?_ (by simp) (fun i y hy => ?_) (fun s' l hm hi => ?_) (by rw [sizeLine_eq]; omega)
  · intro b hb
    show b < (h'.push _).objs.size
    rw [Heap.size_push]
    rcases List.mem_cons.mp hb with rfl | hb
    · exact Nat.lt_succ_self _
    · rcases List.mem_cons.mp hb with rfl | hb
      · rw [hsz]; exact Nat.lt_succ_of_lt (Nat.lt_succ_self _)
      · rw [hsz]; exact Nat.lt_succ_of_lt (Nat.lt_succ_of_lt (List.mem_range.mp hb))
  · obtain ⟨t, rfl⟩ := hy
    exact ⟨out, t, rfl⟩
  · obtain ⟨t, hlt'⟩ : ∃ t, l = [(out, t)] := by
      obtain ⟨h1, h2⟩ := hi
      match l, h1, h2 with
      | [(y, t)], _, h2 =>
        obtain ⟨t', e⟩ := h2 0 _ rfl
        cases e
        exact ⟨_, rfl⟩
      | [], h1, _ => simp [strValues] at h1
      | _ :: _ :: _, h1, _ => simp [strValues] at h1
    subst hlt'
    refine ⟨joinOk_of_weight (by simp; omega) hsep, fun t' k => ?_⟩
    rw [show ([(out, t)] : List (Str × Tok)).map (·.1) = [out] from rfl, join_one]
    obtain ⟨h6, g6, d6, t6, o6⟩ := s'
    obtain ⟨m1, m2, m3, m4, m5⟩ := hm
    dsimp only at m1 m2 m3 m4 m5
    subst m3 m4
    have low : ∀ b o, s.heap.get? b = some o → b ∉ h₃.objs.size :: [s.heap.objs.size] := fun b o e hb => by
      have := Heap.lt_size e
      rcases List.mem_cons.mp hb with rfl | hb
      · exact Nat.lt_irrefl _ (Nat.lt_trans hIlt this)
      · rw [List.mem_singleton.mp hb] at this; exact Nat.lt_irrefl _ this
    have kp : ∀ b o o', s.heap.get? b = some o → h₃.get? b = some o' → h6.get? b = some o' := fun b o o' e e' => m1 b o' (low b o e) (keep₅ _ _ _ e')
    refine hq t' h6 k g6 ps' ⟨F₃.ns.at' fun o e => ?_, fun b o e => kp b o o (F.keep b o e) (F₃.keep b o e), F.above⟩ (fun q hq => ?_) ht₃ (fun ha => ?_)
    · obtain ⟨oL, es, ep, eL, _⟩ := F.ns
      exact kp L oL o eL e
    · have n3 := N₃ q hq
      obtain ⟨own, rest, rfl, hg, _, _⟩ := U.split
      have : ∃ o, s.heap.get? q.1 = some o := by
        rw [hg] at hq
        rcases List.mem_append.mp hq with hq | hq
        · exact ⟨_, (N q (List.mem_append_left _ hq)).1⟩
        · rcases List.mem_cons.mp hq with rfl | hq
          · exact ⟨_, (N (P, tabObj ps) (by simp)).1⟩
          · exact ⟨_, (N q (List.mem_append_right _ (.tail _ hq))).1⟩
      obtain ⟨o, e⟩ := this
      exact ⟨kp _ _ _ e n3.1, n3.2⟩
    · exact GenOnlyQ.bare m2 (ha.push rfl)
end
end Mine
end
section
open PySem PySem.W PyProof.Rows
namespace Mine
structure GoodT (w : World) (h : Heap) : Prop where
  X : (hd.heap_39 w.params).In h
  T : ∃ p loose mg mb, TopRead p loose mg mb h ∧ BMain mg h
theorem GoodT.good {w : World} {h : Heap} (G : GoodT w h) : Good w h := ⟨G.X, let ⟨p, l, mg, mb, T, _⟩ := G.T; ⟨p, l, mg, mb, T⟩⟩
theorem BMain.keeps {mg : Str → Option Value} {h h' : Heap} (b : BMain mg h) (hk : ∀ b o, h.get? b = some o → h'.get? b = some o) : BMain mg h' := let ⟨bm, ob, b1, b2, b3, r⟩ := b; ⟨bm, ob, b1, b2, hk _ _ b3, r⟩
theorem GoodT.keeps {w : World} {h h' : Heap} (G : GoodT w h) (hk : ∀ b o, h.get? b = some o → h'.get? b = some o) : GoodT w h' :=
  ⟨G.X.keeps hk, let ⟨p, l, mg, mb, T, b⟩ := G.T; ⟨p, l, mg, mb, T.keeps hk, b.keeps hk⟩⟩
noncomputable def TabOk (h : Heap) : Prop := ∃ ps, h.get? 82 = some (tabObj ps) ∧ TriplesOk ps.toList
noncomputable def KeepsT (s s' : Shared) : Prop := ∃ h tk gs, s' = { s with heap := h, toks := tk, gens := gs } ∧ (∀ b o, b ≠ (82 : Addr) → s.heap.get? b = some o → h.get? b = some o) ∧ TabOk h ∧ AllBare gs
noncomputable def RetT (s : Shared) (post : Value → Heap → Heap → Prop) (v : Value) (s' : Shared) : Prop := KeepsT s s' ∧ post v s.heap s'.heap
noncomputable def CtT (w : World) (lvl : Nat) (f : Addr) (args : List Value) (pre : Heap → Prop) (post : Value → Heap → Heap → Prop) : Prop :=
  ∀ (A : Around) (s : Shared) (E : Value → Shared → Prop), A.handled = none → A.depth ≤ lvl → A.units ≤ lvl → GoodT w s.heap → TabOk s.heap → AllBare s.gens → 0 < s.toks → pre s.heap →
    wpAny (model pw w) A (call (.ref f) args) (RetT s post) E s
theorem noTab82 {w : World} : noTabs (hd.heap_39 w.params) = true := by kernel_rfl
theorem code86 {w : World} {h : Heap} (X : (hd.heap_39 w.params).In h) : CodeHd h 86 82 := codeHd_of_K X (by kernel_rfl)
theorem ghostT {w : World} {h : Heap} (G : GoodT w h) (hT : TabOk h) : ∃ gb ps, (∀ b o, gb.get? b = some o → h.get? b = some o ∧ b ≠ (82 : Addr)) ∧ (∀ b o, b ≠ (82 : Addr) → h.get? b = some o → gb.get? b = some o) ∧ GoodT w gb ∧ TriplesOk ps.toList ∧ gb.objs.size = h.objs.size ∧
    ∀ L h₁ m, Fr h L h₁ m → Fr gb L h₁ m ∧ News gb L h₁ [((82 : Addr), tabObj ps)] := by
  obtain ⟨ps, hps, ht⟩ := hT
  have keep : ∀ b o, b ≠ (82 : Addr) → h.get? b = some o → (hideAll h [82]).get? b = some o := fun b o hb e => hideAll_get _ e (by simpa using hb)
  have keepC : ∀ b o, h.get? b = some o → (o.cls = .none → ∀ vs, o.data ≠ .fields vs) → (hideAll h [82]).get? b = some o := fun b o e hn => keep b o (fun hb => by
    rw [hb, hps] at e
    cases e
    exact hn rfl ps rfl) e
  have keepN : ∀ {a mm}, h.Ns a mm → (hideAll h [82]).Ns a mm := fun {a mm} x => let ⟨o, es, ep, e, hd, r⟩ := x; ⟨o, es, ep, keepC _ _ e (fun _ vs q => by rw [hd] at q; cases q), hd, r⟩
  refine ⟨hideAll h [82], ps, fun b o e => ⟨of_hideAll _ e, fun hb => ?_⟩, keep, ⟨fun a o e => ?_, ?_⟩, ht, hideAll_size _ _, fun L h₁ m F => ⟨⟨F.ns, fun b o e => F.keep b o (of_hideAll _ e), Nat.le_trans (Nat.le_of_eq (hideAll_size _ _)) F.above⟩, fun p hp => ?_⟩⟩
  · rw [hb, hideAll_none _ (by simp)] at e; cases e
  · refine keep a o (fun ha => ?_) (G.X a o e)
    have e2 := G.X a o e
    rw [ha, hps] at e2
    cases e2
    have h2 := List.all_eq_true.mp (noTab82 (w := w)) (a, tabObj ps) (mem_of_lookupK e)
    exact absurd (show false = true from h2) Bool.false_ne_true
  · obtain ⟨p, l, mg, mb, T, bm, ob, b1, b2, b3, b4, r⟩ := G.T
    exact ⟨p, l, mg, mb, ⟨keepN T.g, keepN T.b, (let ⟨mc, a, r⟩ := T.nolimit; ⟨mc, keepN a, r⟩), T.builtins, T.free⟩, bm, ob, b1, b2, keepC _ _ b3 (fun q => by rw [b4] at q; cases q), b4, r⟩
  · rw [List.mem_singleton.mp hp]
    have hl : @LT.lt Nat _ 82 L := Nat.lt_of_lt_of_le (Heap.lt_size hps) F.above
    exact ⟨F.keep _ _ hps, Nat.ne_of_lt hl, hideAll_none _ (by simp)⟩
/-- a while whose turns may run generators -/
noncomputable def WTurnG (g : Heap) (L : Addr) (J : Nat → (Str → Option Value) → List (Addr × Obj) → Prop) (R : Result → Shared → Prop) (s : Shared) (k : Nat) (f : Flow) (s₃ : Shared) : Prop := match f with
  | .next | .cont => ∃ k' h' tk' gs' m' news', k' < k ∧ s₃ = { s with heap := h', toks := tk', gens := gs' } ∧ Fr g L h' m' ∧ News g L h' news' ∧ J k' m' news' ∧ AllBare gs'
  | .brk => R (.ok .next) s₃
  | .ret v => R (.ok (.ret v)) s₃
theorem WTurnG.next {g : Heap} {L : Addr} {J : Nat → (Str → Option Value) → List (Addr × Obj) → Prop} {R : Result → Shared → Prop} {s s₃ : Shared} {k : Nat} {h' : Heap} {tk' : Nat} {gs' : Array GenState} {m' : Str → Option Value} {news' : List (Addr × Obj)}
    (k' : Nat) (hk : k' < k) (e : s₃ = { s with heap := h', toks := tk', gens := gs' }) (F : Fr g L h' m') (N : News g L h' news') (hb : AllBare gs') (j : J k' m' news') : WTurnG g L J R s k .next s₃ := ⟨k', h', tk', gs', m', news', hk, e, F, N, j, hb⟩
noncomputable def WTestG {prog : Program} {w : World} {A : Around} (g : Heap) (L : Addr) (J : Nat → (Str → Option Value) → List (Addr × Obj) → Prop) (R : Result → Shared → Prop) (s : Shared) (k : Nat) (body orelse : List Stmt) (env : Env) (b : Bool) (s₂ : Shared) : Prop :=
  if b = true then wpAny (model prog w) A (execs body env) (WTurnG g L J R s k) NoE s₂ else wpAny (model prog w) A (execs orelse env) (fun f s₃ => R (.ok f) s₃) NoE s₂
theorem WTestG.true {prog : Program} {w : World} {A : Around} {g : Heap} {L : Addr} {J : Nat → (Str → Option Value) → List (Addr × Obj) → Prop} {R : Result → Shared → Prop} {s : Shared} {k : Nat} {body orelse : List Stmt} {env : Env} {s₂ : Shared}
    (h : wpAny (model prog w) A (execs body env) (WTurnG g L J R s k) NoE s₂) : WTestG (prog := prog) (w := w) (A := A) g L J R s k body orelse env Bool.true s₂ := h
theorem WTestG.false {prog : Program} {w : World} {A : Around} {g : Heap} {L : Addr} {J : Nat → (Str → Option Value) → List (Addr × Obj) → Prop} {R : Result → Shared → Prop} {s : Shared} {k : Nat} {body orelse : List Stmt} {env : Env} {s₂ : Shared}
    (h : wpAny (model prog w) A (execs orelse env) (fun f s₃ => R (.ok f) s₃) NoE s₂) : WTestG (prog := prog) (w := w) (A := A) g L J R s k body orelse env Bool.false s₂ := h
theorem whileG {prog : Program} {w : World} {A : Around} {R : Result → Shared → Prop} {s : Shared} {env : Env} {g : Heap} {L : Addr} {test : PySem.Expr} {body orelse : List Stmt}
    {m : Str → Option Value} {news : List (Addr × Obj)} (J : Nat → (Str → Option Value) → List (Addr × Obj) → Prop) (k : Nat)
    (F : Fr g L s.heap m) (N : News g L s.heap news) (h0 : J k m news) (ht : 0 < s.toks) (hb : AllBare s.gens)
    (turn : ∀ k m₁ news₁ h tk gs, J k m₁ news₁ → Fr g L h m₁ → News g L h news₁ → 0 < tk → AllBare gs →
      wpAny (model prog w) A (isTrue test env (eval test env)) (WTestG (prog := prog) (w := w) (A := A) g L J R s k body orelse env) NoE { s with heap := h, toks := tk, gens := gs }) :
    codeAny (model prog w) A (.whileLoop test body orelse env) R s := by
  have main : ∀ k h tk gs m news, Fr g L h m → News g L h news → J k m news → 0 < tk → AllBare gs → codeAny (model prog w) A (.whileLoop test body orelse env) R { s with heap := h, toks := tk, gens := gs } := by
    intro k
    induction k using Nat.strongRecOn with
    | ind k ih =>
      intro h tk gs m news F N j ht hb
      refine while_step (wpAny_mono (wp_tk (s := { s with heap := h, toks := tk, gens := gs }) ht (turn k m news h tk gs j F N ht hb)) (fun b s₂ h₂ => ?_) fun _ _ x => x.2)
      obtain ⟨ht₂, h₂⟩ := h₂
      cases b with
      | false =>
        rw [if_neg Bool.false_ne_true]
        exact h₂
      | true =>
        rw [if_pos rfl]
        refine wpAny_mono (wp_tk ht₂ (show wpAny (model prog w) A (execs body env) (WTurnG g L J R s k) NoE s₂ from h₂)) (fun f s₃ h₃ => ?_) fun _ _ x => x.2
        obtain ⟨ht₃, h₃⟩ := h₃
        have key : (∃ k' h' tk' gs' m' news', k' < k ∧ s₃ = { s with heap := h', toks := tk', gens := gs' } ∧ Fr g L h' m' ∧ News g L h' news' ∧ J k' m' news' ∧ AllBare gs') → codeAny (model prog w) A (.whileLoop test body orelse env) R s₃ := by
          rintro ⟨k', h', tk', gs', m', news', hk, rfl, F', N', j', hb'⟩
          exact ih k' hk h' tk' gs' m' news' F' N' j' ht₃ hb'
        cases f with
        | next => exact key h₃
        | cont => exact key h₃
        | brk => exact h₃
        | ret v => exact h₃
  exact main k s.heap s.toks s.gens m news F N h0 ht hb
end Mine
end
section
open PySem PySem.W PyProof.Rows
namespace Mine
/-- a for whose turns are told tokens -/
theorem forT {prog : Program} {w : World} {A : Around} {R : Result → Shared → Prop} {s : Shared} {env : Env} {g : Heap} {L : Addr} {target : PySem.Expr} {body orelse : List Stmt} {I : Addr} {fp wr : List Addr} {n : Nat}
    {P : Nat → Value → Heap → Prop} {St : Nat → Heap → Prop} {m : Str → Option Value} {news : List (Addr × Obj)} (W : Src prog w A target I fp wr n P St)
    (J : Nat → (Str → Option Value) → List (Addr × Obj) → Prop)
    (hLf : L ∉ fp) (hwr : ∀ b ∈ wr, g.get? b = none) (hnw : ∀ p ∈ news, p.1 ∉ wr)
    (hst : St 0 s.heap) (F : Fr g L s.heap m) (N : News g L s.heap news) (h0 : J 0 m news) (ht : 0 < s.toks)
    (turn : ∀ i v m₁ news₁ h tk own, i < n → P i v h → J i m₁ news₁ → (∀ p ∈ news₁, p.1 ∉ wr) → (∀ p ∈ own, p.1 ∈ fp) → Fr g L h m₁ → News g L h (news₁ ++ own) → 0 < tk →
      wpAny (model prog w) A (assign target env v) (fun _ s₂ => wpAny (model prog w) A (execs body env) (TurnP g L wr own J R s i) NoE s₂) NoE { s with heap := h, toks := tk })
    (done : ∀ m₁ news₁ h tk, J n m₁ news₁ → Fr g L h m₁ → News g L h news₁ → 0 < tk → wpAny (model prog w) A (execs orelse env) (fun f s₃ => R (.ok f) s₃) NoE { s with heap := h, toks := tk }) :
    codeAny (model prog w) A (.forLoop target (.ref I) body orelse env) R s := by
  have hLw : L ∉ wr := fun h => hLf (W.sub _ h)
  have old : ∀ b o, g.get? b = some o → b ∉ wr := fun b o e hb => by rw [hwr b hb] at e; cases e
  have next : ∀ {h' h₁ : Heap} {m' : Str → Option Value} {news' : List (Addr × Obj)}, Fr g L h' m' → News g L h' news' → (∀ p ∈ news', p.1 ∉ wr) → (∀ b o, b ∉ wr → h'.get? b = some o → h₁.get? b = some o) → Fr g L h₁ m' ∧ News g L h₁ news' :=
    fun F' N' hnw' hk₁ => ⟨⟨F'.ns.at' fun o e => hk₁ _ o hLw e, fun b o e => hk₁ b o (old b o e) (F'.keep b o e), F'.above⟩, fun p hp => ⟨hk₁ _ _ (hnw' p hp) (N' p hp).1, (N' p hp).2⟩⟩
  have main : ∀ k i h tk m₁ news₁, k = n - i → i ≤ n → St i h → Fr g L h m₁ → News g L h news₁ → (∀ p ∈ news₁, p.1 ∉ wr) → J i m₁ news₁ → 0 < tk →
      codeAny (model prog w) A (.forLoop target (.ref I) body orelse env) R { s with heap := h, toks := tk } := by
    intro k
    induction k with
    | zero =>
      intro i h tk m₁ news₁ hk hi hst F N hnw hJ ht
      have : i = n := by omega
      subst this
      refine for_step (wpAny_mono (wp_tk (s := { s with heap := h, toks := tk }) ht (W.done _ (fun s₁ => 0 < s₁.toks → wpAny (model prog w) A (execs orelse env) (fun f s₃ => R (.ok f) s₃) NoE s₁) hst fun h' tk' hk' => ?_)) (fun r s₁ h₁ => ?_) fun _ _ x => x.2)
      · obtain ⟨F₁, N₁⟩ := next F N hnw hk'
        exact fun ht' => done m₁ news₁ h' tk' hJ F₁ N₁ ht'
      · cases r with
        | none => exact h₁.2 h₁.1
        | some v => exact h₁.2.elim
    | succ k ih =>
      intro i h tk m₁ news₁ hk hi hst F N hnw hJ ht
      have hlt : i < n := by omega
      refine for_step (wpAny_mono (wp_tk (s := { s with heap := h, toks := tk }) ht (W.item i _ (fun v s₂ => 0 < s₂.toks → wpAny (model prog w) A (assign target env v) (fun _ s₃ => wpAny (model prog w) A (execs body env) (fun f s₄ => match f with
          | .next | .cont => codeAny (model prog w) A (.forLoop target (.ref I) body orelse env) R s₄
          | .brk => R (.ok .next) s₄
          | .ret v => R (.ok (.ret v)) s₄) NoE s₃) NoE s₂) hlt hst fun v h' tk' hP hst' hk' ht' => ?_)) (fun r s₁ h₁ => ?_) fun _ _ x => x.2)
      · obtain ⟨F₁, N₁⟩ := next F N hnw hk'
        have No : News g L h' (ownOf g fp h') := news_ownOf hLf
        refine wpAny_mono (wp_tk (s := { s with heap := h', toks := tk' }) ht' (turn i v m₁ news₁ h' tk' (ownOf g fp h') hlt hP hJ hnw ownOf_sub F₁ (N₁.append No) ht')) (fun _ s₂ h₂ => wpAny_mono (wp_tk h₂.1 h₂.2) (fun f s₃ h₃ => ?_) fun _ _ x => x.2) fun _ _ x => x.2
        obtain ⟨ht₃, h₃⟩ := h₃
        have key : (∃ h'' tk'' m' news', s₃ = { s with heap := h'', toks := tk'' } ∧ Fr g L h'' m' ∧ News g L h'' (news' ++ ownOf g fp h') ∧ (∀ p ∈ news', p.1 ∉ wr) ∧ J (i + 1) m' news') → codeAny (model prog w) A (.forLoop target (.ref I) body orelse env) R s₃ := by
          rintro ⟨h'', tk'', m', news', rfl, F', N', hnw', hJ'⟩
          refine ih (i + 1) h'' tk'' m' news' (by omega) hlt ?_ F' (fun p hp => N' p (List.mem_append_left _ hp)) hnw' hJ' ht₃
          refine W.frame _ _ _ hst' fun b hb o e => ?_
          cases hn : g.get? b with
          | some o₀ =>
            have h1 := F₁.keep b o₀ hn
            rw [e] at h1
            cases h1
            exact F'.keep b _ hn
          | none => exact (N' _ (List.mem_append_right _ (mem_ownOf hb hn e))).1
        cases f with
        | next => exact key h₃
        | cont => exact key h₃
        | brk => exact h₃
        | ret v => exact h₃
      · cases r with
        | none => exact h₁.2.elim
        | some v => exact wp_tk' h₁.1 h₁.2
  exact main n 0 s.heap s.toks m news rfl (Nat.zero_le _) hst F N hnw h0 ht
theorem ctT_use {w : World} {lvl : Nat} {f : Addr} {args : List Value} {post : Value → Heap → Heap → Prop} (C : CtT w lvl f args (fun _ => True) post)
    {A : Around} {g : Heap} {L : Addr} {s : Shared} {m : Str → Option Value} {news : List (Addr × Obj)} {ps : Array Value} {Q : Value → Shared → Prop} {E : Value → Shared → Prop}
    (h1 : A.handled = none) (h2 : A.depth ≤ lvl) (h3 : A.units ≤ lvl) (F : Fr g L s.heap m) (N : News g L s.heap (((82 : Addr), tabObj ps) :: news)) (hne : ∀ p ∈ news, @Ne Nat p.1 82) (G : GoodT w g) (ht : TriplesOk ps.toList) (hb : AllBare s.gens) (htk : 0 < s.toks)
    (h : ∀ v h' tk' gs' ps', post v s.heap h' → (∀ b o, @Ne Nat b 82 → s.heap.get? b = some o → h'.get? b = some o) → Fr g L h' m → News g L h' (((82 : Addr), tabObj ps') :: news) → TriplesOk ps'.toList → AllBare gs' → 0 < tk' → Q v { s with heap := h', toks := tk', gens := gs' }) : wpAny (model pw w) A (call (.ref f) args) Q E s := by
  have n82 := N _ (.head _)
  refine wpAny_mono (wp_tk htk (C A s E h1 h2 h3 (G.keeps F.keep) ⟨ps, n82.1, ht⟩ hb htk trivial)) (fun v s' r => ?_) fun _ _ x => x.2
  obtain ⟨htk', ⟨h', tk, gs, rfl, k, ⟨ps', e82, ht'⟩, hb'⟩, p⟩ := r
  have hL : @Ne Nat L 82 := fun e => n82.2.1 e.symm
  refine h v h' tk gs ps' p (fun b o hb e => k b o hb e) ⟨F.ns.at' fun o e => k _ o hL e, fun b o e => k b o (fun hb => ?_) (F.keep b o e), F.above⟩ (fun q hq => ?_) ht' hb' htk'
  · have := n82.2.2
    rw [← (show b = 82 from hb), e] at this
    cases this
  · rcases List.mem_cons.mp hq with rfl | hq
    · exact ⟨e82, n82.2⟩
    · have hn := N q (.tail _ hq)
      exact ⟨k _ _ (hne q hq) hn.1, hn.2⟩
end Mine
end
section
open PySem PySem.W PyProof.Rows
namespace Mine
/-- a comprehension's target takes its item -/
noncomputable def BindT (prog : Program) (w : World) (A : Around) (target : PySem.Expr) (env : Env) (TP : Value → Heap → Prop) (HT : Value → (Str → Option Value) → Prop) : Prop :=
  ∀ (I ax : Addr) (i : Nat) (v : Value) (s : Shared) (m₂ : Str → Option Value) (Q : Shared → Prop), s.heap.IsListIter I ax i → TP v s.heap → s.heap.Ns env.locals m₂ →
    (∀ h' tk m₃, h'.Ns env.locals m₃ → (∀ b o, b ≠ env.locals → s.heap.get? b = some o → h'.get? b = some o) → HT v m₃ → Q { s with heap := h', toks := tk }) →
    wpAny (model prog w) A (letOwnedTupleGo target (.ref I) v) (fun _ s₀ => wpAny (model prog w) A (assign target env v) (fun _ s₂ => Q s₂) NoE s₀) NoE s
theorem bind_name {prog : Program} {w : World} {A : Around} {x : Str} {px : Pos} {env : Env} (hx : env.kindOf x = some .local) (hp : (env.scope.kind == .class || (env.scope.kind == .module && env.locals != env.globals)) = false) :
    BindT prog w A (.Name x px) env (fun _ _ => True) (fun v m => m x = some v) := fun I ax i v s m₂ Q _ _ hn hQ => by
  refine letGo_name ?_
  refine wpAny_assign_Name (wpAny_storeName_local hx hn (fun h' hn' hs => hQ h' _ _ hn' (fun b o hb e => hs.extBut b o hb e) (by simp)) hp)
theorem bind_three (R : Value → Value → Value → Value → Prop) {prog : Program} {w : World} {A : Around} {x y z : Str} {px py pz pos : Pos} {k : Nat} {env : Env} (hh : A.handled = none) (hx : env.kindOf x = some .local) (hy : env.kindOf y = some .local) (hz : env.kindOf z = some .local)
    (hxy : x ≠ y) (hxz : x ≠ z) (hyz : y ≠ z) (hp : (env.scope.kind == .class || (env.scope.kind == .module && env.locals != env.globals)) = false) :
    BindT prog w A (.Tuple [.Name x px, .Name y py, .Name z pz] k pos) env (fun v h => ∃ tp a b c, v = .ref tp ∧ h.IsList tp #[a, b, c] ∧ R v a b c) (fun v m => ∃ a b c, R v a b c ∧ m x = some a ∧ m y = some b ∧ m z = some c) := fun I ax i v s m₂ Q hit hT hn hQ => by
  obtain ⟨tp, a, b, c, rfl, hl, hR⟩ := hT
  refine wpAny_letOwnedTupleGo_listiter hit ?_
  refine assign_l hh hl rfl rfl fun h₁ he => ?_
  have k1 : ∀ b o, s.heap.get? b = some o → h₁.get? b = some o := fun b o e => he b o (Nat.ne_of_lt (Heap.lt_size e)) e
  have n1 : h₁.Ns env.locals m₂ := hn.at' fun o e => k1 _ o e
  refine assignInOrder_cons (wpAny_assign_Name (wpAny_storeName_local hx n1 (fun h₂ n2 s2 => ?_) hp))
  refine assignInOrder_cons (wpAny_assign_Name (wpAny_storeName_local hy n2 (fun h₃ n3 s3 => ?_) hp))
  refine assignInOrder_cons (wpAny_assign_Name (wpAny_storeName_local hz n3 (fun h₄ n4 s4 => ?_) hp))
  exact assignInOrder_nil (hQ h₄ _ _ n4 (fun b o hb e => s4.extBut b o hb (s3.extBut b o hb (s2.extBut b o hb (k1 b o e)))) ⟨a, b, c, hR, by simp [hxy, hxz], by simp [hyz], by simp⟩)
/-- a turn's end -/
noncomputable def EndG (g : Heap) (L : Addr) (m : Str → Option Value) (off : List Addr) (own : List (Addr × Obj)) (J : List (Addr × Obj) → Prop) (s s' : Shared) : Prop :=
  ∃ h' tk' gs' news', s' = { s with heap := h', toks := tk', gens := gs' } ∧ Fr g L h' m ∧ News g L h' (news' ++ own) ∧ (∀ p ∈ news', p.1 ∉ off) ∧ J news' ∧ AllBare gs'
noncomputable def TurnG (prog : Program) (w : World) (A : Around) (cenv : Env) (ifs : List PySem.Expr) (elt : PySem.Expr) (J1 : Value → Shared → Prop) (J0 : Shared → Prop) (s : Shared) : Prop :=
  wpAny (model prog w) A (forIn ifs true fun c r => if r = true then do let ok ← isTrue c cenv (eval c cenv); pure (ForInStep.yield ok) else pure (ForInStep.yield r)) (fun ok s₃ =>
    if ok = true then wpAny (model prog w) A (eval elt cenv) J1 NoE s₃ else J0 s₃) NoE s
theorem but1 {g h h' : Heap} {L I : Addr} {m : Str → Option Value} {news : List (Addr × Obj)} (he : ∀ b o, @Ne Nat b I → h.get? b = some o → h'.get? b = some o) (hIg : g.get? I = none) (hIL : @Ne Nat I L) (F : Fr g L h m) (N : News g L h news) (off : ∀ p ∈ news, @Ne Nat p.1 I) :
    Fr g L h' m ∧ News g L h' news :=
  ⟨⟨F.ns.at' fun o e => he _ o (Ne.symm hIL) e, fun b o e => he b o (fun q => by rw [show b = I from q, hIg] at e; cases e) (F.keep b o e), F.above⟩, fun p hp => ⟨he _ _ (off p hp) (N p hp).1, (N p hp).2⟩⟩
theorem loopG {prog : Program} {w : World} {A : Around} {elt target iter : PySem.Expr} {ifs : List PySem.Expr} {scope : Scope} {pos : Pos} {g : Heap} {L I D : Addr} {m : Str → Option Value} {cenv : Env} {TP : Value → Heap → Prop} {HT : Value → (Str → Option Value) → Prop}
    {ax : Addr} {its : Array Value} {s₁ : Shared} {R : Result → Shared → Prop} (J : Nat → List Value → List (Addr × Obj) → Prop) (hh : A.handled = none)
    (bind : BindT prog w A target cenv TP HT) (hsz : its.size ≤ sizeLine)
    (hJl : ∀ i ys news, J i ys news → ys.length ≤ i) (hTP : ∀ i v ys news h, J i ys news → its[i]? = some v → Fr g L h m → News g L h news → TP v h)
    (hIg : g.get? I = none) (hCg : g.get? cenv.locals = none) (hDg : g.get? D = none) (hIC : @Ne Nat I cenv.locals) (hID : @Ne Nat I D) (hCD : @Ne Nat cenv.locals D) (hIL : @Ne Nat I L) (hCL : @Ne Nat cenv.locals L) (hDL : @Ne Nat D L)
    (haI : @Ne Nat ax I) (haC : @Ne Nat ax cenv.locals) (haD : @Ne Nat ax D) (haL : @Ne Nat ax L)
    (turn : ∀ i v ys news h tk gs oC m₂ own, i < its.size → its[i]? = some v → J i ys news → (∀ p ∈ news, p.1 ∉ [I, cenv.locals, D]) → LCg.NsObj oC m₂ → HT v m₂ → Fr g L h m → News g L h (news ++ ((cenv.locals, oC) :: own)) → AllBare gs → 0 < tk → (∀ p ∈ own, p.1 ∈ [I, ax, D]) → (∃ o, (I, o) ∈ own) → (∃ o, (D, o) ∈ own) →
      TurnG prog w A cenv ifs elt (fun y s' => EndG g L m [I, cenv.locals, D] ((cenv.locals, oC) :: own) (J (i + 1) (ys ++ [y])) s₁ s') (EndG g L m [I, cenv.locals, D] ((cenv.locals, oC) :: own) (J (i + 1) ys) s₁) { s₁ with heap := h, toks := tk, gens := gs })
    (fin : ∀ h tk gs ys news m₂, J its.size ys news → (∀ p ∈ news, p.1 ∉ [I, cenv.locals, D]) → Fr g L h m → News g L h ((D, LCg.lst ys) :: news) → h.Ns cenv.locals m₂ → AllBare gs → 0 < tk → R (.ok .next) { s₁ with heap := h, toks := tk, gens := gs }) :
    ∀ k i h tk gs ys news m₂, k = its.size - i → i ≤ its.size → h.IsListIter I ax i → h.IsList ax its → h.Ns cenv.locals m₂ → Fr g L h m → News g L h ((D, LCg.lst ys) :: news) → (∀ p ∈ news, p.1 ∉ [I, cenv.locals, D]) → J i ys news → AllBare gs → 0 < tk →
      codeAny (model prog w) A (.compLoop (.ListComp elt [⟨target, iter, ifs, 0⟩] scope pos) 0 (.ref I) (.ref D) cenv) R { s₁ with heap := h, toks := tk, gens := gs } := by
  intro k
  induction k with
  | zero =>
    intro i h tk gs ys news m₂ hk hi hit hl hn F N off hJ hb ht
    have : i = its.size := by omega
    subst this
    refine comp_step (wpAny_mono (wp_tk (s := { s₁ with heap := h, toks := tk, gens := gs }) ht (wpAny_pyNext_list_end hh hit hl (by simp) (Q := fun r s' => r = none ∧ (0 < s'.toks → R (.ok .next) s')) fun h' he => ⟨rfl, fun ht' => ?_⟩)) (fun r s' x => ?_) fun _ _ x => x.2)
    · have offI : ∀ p ∈ (D, LCg.lst ys) :: news, @Ne Nat p.1 I := fun p hp => by
        rcases List.mem_cons.mp hp with rfl | hp
        · exact Ne.symm hID
        · exact fun q => off p hp (by rw [show p.1 = I from q]; simp)
      obtain ⟨F', N'⟩ := but1 (fun b o hb e => he b o hb e) hIg hIL F N offI
      exact fin h' tk gs ys news m₂ hJ off F' N' (hn.at' fun o e => he _ o (Ne.symm hIC) e) hb ht'
    · obtain ⟨x1, rfl, x2⟩ := x
      exact x2 x1
  | succ k ih =>
    intro i h tk gs ys news m₂ hk hi hit hl hn F N off hJ hb ht
    have hlt : i < its.size := by omega
    have offI : ∀ p ∈ (D, LCg.lst ys) :: news, @Ne Nat p.1 I := fun p hp => by
      rcases List.mem_cons.mp hp with rfl | hp
      · exact Ne.symm hID
      · exact fun q => off p hp (by rw [show p.1 = I from q]; simp)
    have offC : ∀ p ∈ (D, LCg.lst ys) :: news, @Ne Nat p.1 cenv.locals := fun p hp => by
      rcases List.mem_cons.mp hp with rfl | hp
      · exact Ne.symm hCD
      · exact fun q => off p hp (by rw [show p.1 = cenv.locals from q]; simp)
    refine comp_step (wpAny_mono (wp_tk (s := { s₁ with heap := h, toks := tk, gens := gs }) ht (wpAny_pyNext_list_item hit hl (x := its[i]) (by simp [hlt]) (Q := fun r s' => 0 < s'.toks → match r with
      | none => False
      | some v => wpAny (model prog w) A (letOwnedTupleGo target (.ref I) v) (fun _ s₀ => wpAny (model prog w) A (assign target cenv v) (fun _ s₂ =>
          wpAny (model prog w) A (forIn ifs true fun c r => if r = true then do let ok ← isTrue c cenv (eval c cenv); pure (ForInStep.yield ok) else pure (ForInStep.yield r)) (fun ok s₃ =>
            if ok = true then wpAny (model prog w) A (eval elt cenv) (fun x s₄ =>
              wpAny (model prog w) A (call (.builtin "list.append") [.ref D, x]) (fun _ s₅ => codeAny (model prog w) A (.compLoop (.ListComp elt [⟨target, iter, ifs, 0⟩] scope pos) 0 (.ref I) (.ref D) cenv) R s₅) NoE s₄) NoE s₃
            else codeAny (model prog w) A (.compLoop (.ListComp elt [⟨target, iter, ifs, 0⟩] scope pos) 0 (.ref I) (.ref D) cenv) R s₃) NoE s₂) NoE s₀) NoE s') fun h₂ hit₂ hs₂ => fun ht₂ => ?_)) (fun r s' x => ?_) fun _ _ x => x.2)
    · obtain ⟨F₂, N₂⟩ := but1 (fun b o hb e => hs₂.extBut b o hb e) hIg hIL F N offI
      have hn₂ : h₂.Ns cenv.locals m₂ := hn.at' fun o e => hs₂.extBut _ o (Ne.symm hIC) e
      have hl₂ : h₂.IsList ax its := hl.extBut hs₂.extBut haI
      have B := bind I ax (i + 1) its[i] { s₁ with heap := h₂, toks := tk, gens := gs } m₂ (fun s₂ => 0 < s₂.toks → wpAny (model prog w) A (forIn ifs true fun c r => if r = true then do let ok ← isTrue c cenv (eval c cenv); pure (ForInStep.yield ok) else pure (ForInStep.yield r)) (fun ok s₃ =>
            if ok = true then wpAny (model prog w) A (eval elt cenv) (fun x s₄ =>
              wpAny (model prog w) A (call (.builtin "list.append") [.ref D, x]) (fun _ s₅ => codeAny (model prog w) A (.compLoop (.ListComp elt [⟨target, iter, ifs, 0⟩] scope pos) 0 (.ref I) (.ref D) cenv) R s₅) NoE s₄) NoE s₃
            else codeAny (model prog w) A (.compLoop (.ListComp elt [⟨target, iter, ifs, 0⟩] scope pos) 0 (.ref I) (.ref D) cenv) R s₃) NoE s₂) hit₂ (hTP i _ ys news _ hJ (by simp [hlt]) F₂ fun p hp => N₂ p (.tail _ hp)) hn₂ (fun h₃ tk₃ m₃ hn₃ hk₃ hT => fun ht₃ => ?_)
      · exact wpAny_mono (wp_tk (s := { s₁ with heap := h₂, toks := tk, gens := gs }) ht₂ B) (fun _ s₀ h₀ => wp_tk' h₀.1 h₀.2) fun _ _ x => x.2
      obtain ⟨F₃, N₃⟩ := but1 hk₃ hCg hCL F₂ N₂ offC
      have hit₃ : h₃.IsListIter I ax (i + 1) := hit₂.at fun o e => hk₃ _ o hIC e
      have hl₃ : h₃.IsList ax its := hl₂.at fun o e => hk₃ _ o haC e
      obtain ⟨oC, heC, hoC⟩ := LCg.ns_obj hn₃
      have No : News g L h₃ (ownOf g [I, ax, D] h₃) := news_ownOf (by simp [Ne.symm hIL, Ne.symm haL, Ne.symm hDL])
      have N₃' : News g L h₃ (news ++ ((cenv.locals, oC) :: ownOf g [I, ax, D] h₃)) := fun p hp => by
        rcases List.mem_append.mp hp with hp | hp
        · exact N₃ p (.tail _ hp)
        · rcases List.mem_cons.mp hp with rfl | hp
          · exact ⟨heC, hCL, hCg⟩
          · exact No p hp
      have T := turn i its[i] ys news h₃ tk₃ gs oC m₃ (ownOf g [I, ax, D] h₃) hlt (by simp [hlt]) hJ off hoC hT F₃ N₃' hb ht₃ ownOf_sub (let ⟨_, e, _⟩ := id hit₃; ⟨_, mem_ownOf (by simp) hIg e⟩) ⟨_, mem_ownOf (by simp) hDg (N₃ _ (.head _)).1⟩
      have back : ∀ {h₄ : Heap} {news₄ : List (Addr × Obj)}, Fr g L h₄ m → News g L h₄ (news₄ ++ ((cenv.locals, oC) :: ownOf g [I, ax, D] h₃)) →
          h₄.IsListIter I ax (i + 1) ∧ h₄.IsList ax its ∧ h₄.Ns cenv.locals m₃ ∧ h₄.get? D = some (LCg.lst ys) := fun {h₄ news₄} F₄ N₄ => by
        have kp : ∀ b ∈ [I, ax, D], ∀ o, h₃.get? b = some o → h₄.get? b = some o := fun b hb o e => by
          cases hn : g.get? b with
          | some o₀ =>
            have h1 := F₃.keep b o₀ hn
            rw [e] at h1
            cases h1
            exact F₄.keep b _ hn
          | none => exact (N₄ _ (List.mem_append_right _ (.tail _ (mem_ownOf hb hn e)))).1
        exact ⟨hit₃.at fun o e => kp I (by simp) o e, hl₃.at fun o e => kp ax (by simp) o e, hoC.ns (N₄ _ (List.mem_append_right _ (.head _))).1, kp D (by simp) _ (N₃ _ (.head _)).1⟩
      refine wpAny_mono (wp_tk (s := { s₁ with heap := h₃, toks := tk₃, gens := gs }) ht₃ T) (fun ok s₃ x => ?_) fun _ _ x => x.2
      obtain ⟨ht₄, x⟩ := x
      cases ok with
      | false =>
        rw [if_neg Bool.false_ne_true] at x ⊢
        obtain ⟨h₄, tk₄, gs₄, news₄, rfl, F₄, N₄, off₄, J₄, b₄⟩ := x
        obtain ⟨b1, b2, b3, b4⟩ := back F₄ N₄
        refine ih (i + 1) h₄ tk₄ gs₄ ys news₄ m₃ (by omega) (by omega) b1 b2 b3 F₄ (fun p hp => ?_) off₄ J₄ b₄ ht₄
        rcases List.mem_cons.mp hp with rfl | hp
        · exact ⟨b4, hDL, hDg⟩
        · exact N₄ p (List.mem_append_left _ hp)
      | true =>
        rw [if_pos rfl] at x ⊢
        refine wpAny_mono (wp_tk ht₄ x) (fun y s₄ z => ?_) fun _ _ x => x.2
        obtain ⟨ht₅, h₄, tk₄, gs₄, news₄, rfl, F₄, N₄, off₄, J₄, b₄⟩ := z
        obtain ⟨b1, b2, b3, b4⟩ := back F₄ N₄
        have hys : ys.length ≤ i := hJl i ys news hJ
        refine append_at (hsz := by show ys.toArray.size ≤ sizeLine; rw [List.size_toArray]; omega) b4 fun h₅ hs₅ hD₅ => ?_
        have offD : ∀ p ∈ news₄, @Ne Nat p.1 D := fun p hp q => off₄ p hp (by rw [show p.1 = D from q]; simp)
        obtain ⟨F₅, N₅⟩ := but1 (fun b o hb e => hs₅.extBut b o hb e) hDg hDL F₄ (fun p hp => N₄ p (List.mem_append_left _ hp)) offD
        refine ih (i + 1) h₅ tk₄ gs₄ (ys ++ [y]) news₄ m₃ (by omega) (by omega) (b1.at fun o e => hs₅.extBut _ o hID e) (b2.at fun o e => hs₅.extBut _ o haD e) (b3.sameBut hs₅ hCD) F₅ (fun p hp => ?_) off₄ J₄ b₄ ht₅
        rcases List.mem_cons.mp hp with rfl | hp
        · exact ⟨hD₅.trans (congrArg some (LCg.lst_snoc ys y)), hDL, hDg⟩
        · exact N₅ p hp
    · obtain ⟨x1, x2⟩ := x
      cases r with
      | none => exact (x2 x1).elim
      | some v => exact x2 x1
/-- what the comprehension asks once its source stands -/
noncomputable def CompSG (prog : Program) (w : World) (A : Around) (env : Env) (scope : Scope) (cl : List (Str × Addr)) (ifs : List PySem.Expr) (elt : PySem.Expr) (g : Heap) (L : Addr) (m : Str → Option Value) (TP : Value → Heap → Prop) (HT : Value → (Str → Option Value) → Prop)
    (J : Nat → List Value → List (Addr × Obj) → Prop) (Q : Value → Shared → Prop) (xv : Value) (s₁ : Shared) : Prop :=
  ∃ (ax : Addr) (its : Array Value) (news : List (Addr × Obj)), xv = .ref ax ∧ Fr g L s₁.heap m ∧ News g L s₁.heap news ∧ s₁.heap.IsList ax its ∧ @Ne Nat ax L ∧ its.size ≤ sizeLine ∧ AllBare s₁.gens ∧ 0 < s₁.toks ∧ J 0 [] news ∧
    (∀ i ys news, J i ys news → ys.length ≤ i) ∧ (∀ i v ys news h, J i ys news → its[i]? = some v → Fr g L h m → News g L h news → TP v h) ∧
    (∀ (I C D : Addr) i v ys news h tk gs oC m₂ own, i < its.size → its[i]? = some v → J i ys news → (∀ p ∈ news, p.1 ∉ [I, C, D]) → LCg.NsObj oC m₂ → HT v m₂ → Fr g L h m → News g L h (news ++ ((C, oC) :: own)) → AllBare gs → 0 < tk → (∀ p ∈ own, p.1 ∈ [I, ax, D]) → (∃ o, (I, o) ∈ own) → (∃ o, (D, o) ∈ own) →
      TurnG prog w A (compEnvC scope cl C env) ifs elt (fun y s' => EndG g L m [I, C, D] ((C, oC) :: own) (J (i + 1) (ys ++ [y])) s₁ s') (EndG g L m [I, C, D] ((C, oC) :: own) (J (i + 1) ys) s₁) { s₁ with heap := h, toks := tk, gens := gs }) ∧
    (∀ D h tk gs ys news, J its.size ys news → (∀ p ∈ news, p.1 ≠ D) → Fr g L h m → News g L h ((D, LCg.lst ys) :: news) → AllBare gs → 0 < tk → Q (.ref D) { s₁ with heap := h, toks := tk, gens := gs })
theorem compG {prog : Program} {w : World} {A : Around} {E : Value → Shared → Prop} {s : Shared} {env : Env} {elt target iter : PySem.Expr} {ifs : List PySem.Expr} {scope : Scope} {cl : List (Str × Addr)} {pos : Pos} {Q : Value → Shared → Prop}
    (g : Heap) (L : Addr) (m : Str → Option Value) (TP : Value → Heap → Prop) (HT : Value → (Str → Option Value) → Prop) (J : Nat → List Value → List (Addr × Obj) → Prop)
    (hh : A.handled = none) (hclos : closureFor scope env = pure cl) (hcell : ∀ y ∈ scope.names, y.2 ≠ .cell) (hkind : scope.kind = .function)
    (hnames : ∀ y ∈ scope.names, y.2 = .local → scope.names.lookup y.1 = some .local) (hs : ∀ x, foldedSetIterable iter env x = pure x)
    (bind : ∀ C, BindT prog w A target (compEnvC scope cl C env) TP HT)
    (h : wpAny (model prog w) A (eval iter env) (CompSG prog w A env scope cl ifs elt g L m TP HT J Q) E s) :
    wpAny (model prog w) A (eval (.ListComp elt [⟨target, iter, ifs, 0⟩] scope pos) env) Q E s := by
  rw [eval_ListComp]
  refine wpAny_comprehension_free (use := none) rfl hs hclos hkind hnames (wpAny_mono h (fun xv s₁ h₁ => ?_) fun _ _ e => e)
  obtain ⟨ax, its, news, rfl, F, N, hl, haL, hsz, hb, ht, h0, hJl, hTP, turn, fin⟩ := h₁
  refine wpAny_pyIter_list hl ?_
  refine wpAny_newObj_type (wpAny_newFunctionEnv hcell (by intro y hy; simp at hy) (fun h₁ hns₁ hsb₁ => ?_) hkind)
  dsimp only at hns₁ hsb₁ ⊢
  generalize hH1 : s₁.heap.push { cls := .type "list_iterator", dict := none, data := .fields #[.ref ax, .int 0 0] } = H1 at hns₁ hsb₁ ⊢
  generalize hH2 : H1.push { cls := .type "list", dict := none, data := .seq ([] : List Value).toArray } = H2 at hns₁ hsb₁ ⊢
  have eI : H1.objs.size = s₁.heap.objs.size + 1 := by rw [← hH1, Heap.size_push]
  have eD : H2.objs.size = H1.objs.size + 1 := by rw [← hH2, Heap.size_push]
  have up1 : ∀ b o, s₁.heap.get? b = some o → H1.get? b = some o := fun b o e => hH1 ▸ Heap.get?_push_of_some _ e
  have up2 : ∀ b o, H1.get? b = some o → H2.get? b = some o := fun b o e => hH2 ▸ Heap.get?_push_of_some _ e
  have low : ∀ b o, s₁.heap.get? b = some o → @LT.lt Nat _ b s₁.heap.objs.size := fun b o e => Heap.lt_size e
  have up : ∀ b o, H1.get? b = some o → h₁.get? b = some o := fun b o e => hsb₁.extBut b o (Nat.ne_of_lt (Heap.lt_size (up2 b o e))) (Heap.get?_push_of_some _ (up2 b o e))
  have fresh : ∀ a, @LE.le Nat _ s₁.heap.objs.size a → g.get? a = none := fun a ha => by
    cases e : g.get? a with
    | none => rfl
    | some o' => exact absurd (low _ _ (F.keep _ _ e)) (Nat.not_lt.mpr ha)
  have hLlt : @LT.lt Nat _ L s₁.heap.objs.size := F.ns.lt
  have hax : @LT.lt Nat _ ax s₁.heap.objs.size := by obtain ⟨_, e, _⟩ := hl; exact low _ _ e
  have hit : h₁.IsListIter s₁.heap.objs.size ax 0 := ⟨_, up _ _ (hH1 ▸ Heap.get?_push_size _ rfl), rfl, rfl⟩
  have hD1 : h₁.get? H1.objs.size = some (LCg.lst []) := by
    have e : H2.get? H1.objs.size = some (LCg.lst []) := by rw [← hH2]; exact Heap.get?_push_size _ rfl
    exact hsb₁.extBut _ _ (neN (by omega)) (Heap.get?_push_of_some _ e)
  have loop := loopG (prog := prog) (w := w) (A := A) (elt := elt) (target := target) (iter := iter) (ifs := ifs) (scope := scope) (pos := pos) (g := g) (L := L) (I := s₁.heap.objs.size) (D := H1.objs.size) (m := m) (cenv := compEnvC scope cl H2.objs.size env) (ax := ax) (its := its) (s₁ := s₁)
    (R := compPost (model prog w) A E none Q (.ref H1.objs.size) H2.objs.size) J hh (bind _) hsz hJl hTP (fresh _ (Nat.le_refl _)) (fresh _ (by show @LE.le Nat _ _ H2.objs.size; omega)) (fresh _ (by omega))
    (by show @Ne Nat _ H2.objs.size; exact neN (by omega)) (neN (by omega)) (by show @Ne Nat H2.objs.size _; exact neN (by omega)) (neN (by omega)) (by show @Ne Nat H2.objs.size _; exact neN (by omega)) (neN (by omega)) (neN (by omega)) (by show @Ne Nat _ H2.objs.size; exact neN (by omega)) (neN (by omega)) haL
    (turn s₁.heap.objs.size H2.objs.size H1.objs.size) (fun h tk gs ys news m₂ j off F' N' hn hb' ht' => ⟨m₂, hn, fun h'' hs'' => ?_⟩)
    its.size 0 h₁ s₁.toks s₁.gens [] news _ rfl (Nat.zero_le _) hit (hl.at fun o e => up _ o (up1 _ o e)) hns₁ (F.keeps fun b o e => up _ o (up1 _ o e)) (fun p hp => ?_) (fun p hp => ?_) h0 hb ht
  · exact codeAny_compStart_list loop (wpAny_pyIter_listiter hit loop)
  · have hoff : ∀ p ∈ (H1.objs.size, LCg.lst ys) :: news, @Ne Nat p.1 H2.objs.size := fun p hp => by
      rcases List.mem_cons.mp hp with rfl | hp
      · exact neN (by omega)
      · exact fun q => off p hp (by rw [show p.1 = H2.objs.size from q]; simp [compEnvC])
    obtain ⟨F'', N''⟩ := but1 (fun b o hb e => hs''.extBut b o hb e) (fresh _ (by show @LE.le Nat _ _ H2.objs.size; omega)) (neN (by omega)) F' N' hoff
    exact fin _ h'' tk gs ys news j (fun p hp q => off p hp (by rw [q]; simp)) F'' N'' hb' ht'
  · rcases List.mem_cons.mp hp with rfl | hp
    · exact ⟨hD1, neN (by omega), fresh _ (by omega)⟩
    · exact ⟨up _ _ (up1 _ _ (N p hp).1), (N p hp).2⟩
  · have := low _ _ (N p hp).1
    intro hm
    simp only [List.mem_cons, List.not_mem_nil, or_false, compEnvC] at hm
    rcases hm with q | q | q
    · exact absurd q (neN (by omega))
    · exact absurd q (neN (by omega))
    · exact absurd q (neN (by omega))
end Mine
end
section
open PySem PySem.W PyProof.Rows
namespace Mine
/-- a store into a cell, the kept part of the ledger named -/
theorem stCM {M : Model} {A : Around} {E : Value → Shared → Prop} {s : Shared} {h₀ : Heap} {L a : Addr} {cd : Value} {name : Str} {scope : Scope} {m : Str → Option Value} {x : Str} {c : Addr} {o : Obj} {v₀ : Option Value} {v : Value} {news : List (Addr × Obj)} (keep : List (Addr × Obj)) {Q : Unit → Shared → Prop} (F : Fr h₀ L s.heap m) (N : News h₀ L s.heap news)
    (hc : (cellsFrom (L + 1) scope.names []).lookup x = some c) (hm : (c, o) ∈ news) (hd : o.data = .cell v₀) (hkp : ∀ p ∈ keep, p ∈ news ∧ @Ne Nat p.1 c)
    (h : ∀ h' o', Fr h₀ L h' m → News h₀ L h' ((c, o') :: keep) → o'.data = .cell (some v) → Q () { s with heap := h' })
    (hk : scope.kind = .function := by rfl) (hl : (envOfC name scope L a cd).kindOf x = some .cell := by rfl) :
    wpAny M A (storeName (envOfC name scope L a cd) x v) Q E s :=
  stCN (own := []) (rest := keep) F (fun p hp => by
    rcases List.mem_cons.mp hp with rfl | hp
    · exact N _ hm
    · exact N _ (hkp p hp).1) hc hd (fun p hp => by cases hp) (fun p hp => (hkp p hp).2) h hk hl
end Mine
end
section
open PySem PySem.W PyProof.Rows
namespace Mine
/-- what the comprehension asks once its source stands -/
noncomputable def CompSA (prog : Program) (w : World) (A : Around) (env : Env) (scope : Scope) (cl : List (Str × Addr)) (ifs : List PySem.Expr) (elt : PySem.Expr) (g : Heap) (L : Addr) (m : Str → Option Value) (TP : Value → Heap → Prop) (HT : Value → (Str → Option Value) → Prop)
    (J : Nat → List Value → List (Addr × Obj) → Prop) (y : Str) (Q : Flow → Shared → Prop) (xv : Value) (s₁ : Shared) : Prop :=
  ∃ (ax : Addr) (its : Array Value) (news : List (Addr × Obj)), xv = .ref ax ∧ Fr g L s₁.heap m ∧ News g L s₁.heap news ∧ s₁.heap.IsList ax its ∧ @Ne Nat ax L ∧ its.size ≤ sizeLine ∧ AllBare s₁.gens ∧ 0 < s₁.toks ∧ J 0 [] news ∧
    (∀ i ys news, J i ys news → ys.length ≤ i) ∧ (∀ i v ys news h, J i ys news → its[i]? = some v → Fr g L h m → News g L h news → TP v h) ∧
    (∀ (I C D : Addr) i v ys news h tk gs oC m₂ own, i < its.size → its[i]? = some v → J i ys news → (∀ p ∈ news, p.1 ∉ [I, C, D]) → LCg.NsObj oC m₂ → HT v m₂ → Fr g L h m → News g L h (news ++ ((C, oC) :: own)) → AllBare gs → 0 < tk → (∀ p ∈ own, p.1 ∈ [I, ax, D]) → (∃ o, (I, o) ∈ own) → (∃ o, (D, o) ∈ own) →
      TurnG prog w A (compEnvC scope cl C env) ifs elt (fun y s' => EndG g L m [I, C, D] ((C, oC) :: own) (J (i + 1) (ys ++ [y])) s₁ s') (EndG g L m [I, C, D] ((C, oC) :: own) (J (i + 1) ys) s₁) { s₁ with heap := h, toks := tk, gens := gs }) ∧
    (∀ D h tk gs ys news, J its.size ys news → (∀ p ∈ news, p.1 ≠ D) → Fr g L h (fun z => if z = y then some (.ref D) else m z) → News g L h ((D, LCg.lst ys) :: news) → AllBare gs → 0 < tk → Q .next { s₁ with heap := h, toks := tk, gens := gs })
theorem asgCompG {prog : Program} {w : World} {A : Around} {E : Value → Shared → Prop} {s : Shared} {env : Env} {elt target iter : PySem.Expr} {ifs : List PySem.Expr} {scope : Scope} {cl : List (Str × Addr)} {pos spos py : Pos} {y : Str} {Q : Flow → Shared → Prop}
    (g : Heap) (L : Addr) (m : Str → Option Value) (TP : Value → Heap → Prop) (HT : Value → (Str → Option Value) → Prop) (J : Nat → List Value → List (Addr × Obj) → Prop)
    (hh : A.handled = none) (hLe : env.locals = L) (hsw : swapsWith (.ListComp elt [⟨target, iter, ifs, 0⟩] scope pos) (some (.Name y py)) spos.line env = pure true)
    (hy : env.kindOf y = some .local) (hp : (env.scope.kind == .class || (env.scope.kind == .module && env.locals != env.globals)) = false) (hclos : closureFor scope env = pure cl) (hcell : ∀ y ∈ scope.names, y.2 ≠ .cell) (hkind : scope.kind = .function)
    (hnames : ∀ y ∈ scope.names, y.2 = .local → scope.names.lookup y.1 = some .local) (hs : ∀ x, foldedSetIterable iter env x = pure x)
    (bind : ∀ C, BindT prog w A target (compEnvC scope cl C env) TP HT)
    (h : wpAny (model prog w) A (eval iter env) (CompSA prog w A env scope cl ifs elt g L m TP HT J y Q) E s) :
    wpAny (model prog w) A (exec (.Assign [.Name y py] (.ListComp elt [⟨target, iter, ifs, 0⟩] scope pos) spos) env) Q E s := by
  rw [exec_Assign_Name_used _ _ _ _ hsw]
  refine wpAny_bind (wpAny_standAt (wpAny_bind ?_))
  show wpAny _ A (do let _ ← comprehension (.ListComp elt [⟨target, iter, ifs, 0⟩] scope pos) scope env _ (newList []) false (eval iter env) (some (assign (.Name y py) env))) _ _ s
  refine wpAny_bind (wpAny_mono (wpAny_comprehension_free (use := some (assign (.Name y py) env)) (Q := fun _ s' => Q .next s') rfl hs hclos hkind hnames
    (wpAny_mono h (fun xv s₁ h₁ => ?_) fun _ _ e => e)) (fun _ s' hq => wpAny_pure (wpAny_pure hq)) fun _ _ e => e)
  obtain ⟨ax, its, news, rfl, F, N, hl, haL, hsz, hb, ht, h0, hJl, hTP, turn, fin⟩ := h₁
  refine wpAny_pyIter_list hl ?_
  refine wpAny_newObj_type (wpAny_newFunctionEnv hcell (by intro y hy; simp at hy) (fun h₁ hns₁ hsb₁ => ?_) hkind)
  dsimp only at hns₁ hsb₁ ⊢
  generalize hH1 : s₁.heap.push { cls := .type "list_iterator", dict := none, data := .fields #[.ref ax, .int 0 0] } = H1 at hns₁ hsb₁ ⊢
  generalize hH2 : H1.push { cls := .type "list", dict := none, data := .seq ([] : List Value).toArray } = H2 at hns₁ hsb₁ ⊢
  have eI : H1.objs.size = s₁.heap.objs.size + 1 := by rw [← hH1, Heap.size_push]
  have eD : H2.objs.size = H1.objs.size + 1 := by rw [← hH2, Heap.size_push]
  have up1 : ∀ b o, s₁.heap.get? b = some o → H1.get? b = some o := fun b o e => hH1 ▸ Heap.get?_push_of_some _ e
  have up2 : ∀ b o, H1.get? b = some o → H2.get? b = some o := fun b o e => hH2 ▸ Heap.get?_push_of_some _ e
  have low : ∀ b o, s₁.heap.get? b = some o → @LT.lt Nat _ b s₁.heap.objs.size := fun b o e => Heap.lt_size e
  have up : ∀ b o, H1.get? b = some o → h₁.get? b = some o := fun b o e => hsb₁.extBut b o (Nat.ne_of_lt (Heap.lt_size (up2 b o e))) (Heap.get?_push_of_some _ (up2 b o e))
  have fresh : ∀ a, @LE.le Nat _ s₁.heap.objs.size a → g.get? a = none := fun a ha => by
    cases e : g.get? a with
    | none => rfl
    | some o' => exact absurd (low _ _ (F.keep _ _ e)) (Nat.not_lt.mpr ha)
  have hLlt : @LT.lt Nat _ L s₁.heap.objs.size := F.ns.lt
  have hax : @LT.lt Nat _ ax s₁.heap.objs.size := by obtain ⟨_, e, _⟩ := hl; exact low _ _ e
  have hit : h₁.IsListIter s₁.heap.objs.size ax 0 := ⟨_, up _ _ (hH1 ▸ Heap.get?_push_size _ rfl), rfl, rfl⟩
  have hD1 : h₁.get? H1.objs.size = some (LCg.lst []) := by
    have e : H2.get? H1.objs.size = some (LCg.lst []) := by rw [← hH2]; exact Heap.get?_push_size _ rfl
    exact hsb₁.extBut _ _ (neN (by omega)) (Heap.get?_push_of_some _ e)
  have loop := loopG (prog := prog) (w := w) (A := A) (elt := elt) (target := target) (iter := iter) (ifs := ifs) (scope := scope) (pos := pos) (g := g) (L := L) (I := s₁.heap.objs.size) (D := H1.objs.size) (m := m) (cenv := compEnvC scope cl H2.objs.size env) (ax := ax) (its := its) (s₁ := s₁)
    (R := compPost (model prog w) A E (some (assign (.Name y py) env)) (fun _ s' => Q .next s') (.ref H1.objs.size) H2.objs.size) J hh (bind _) hsz hJl hTP (fresh _ (Nat.le_refl _)) (fresh _ (by show @LE.le Nat _ _ H2.objs.size; omega)) (fresh _ (by omega))
    (by show @Ne Nat _ H2.objs.size; exact neN (by omega)) (neN (by omega)) (by show @Ne Nat H2.objs.size _; exact neN (by omega)) (neN (by omega)) (by show @Ne Nat H2.objs.size _; exact neN (by omega)) (neN (by omega)) (neN (by omega)) (by show @Ne Nat _ H2.objs.size; exact neN (by omega)) (neN (by omega)) haL
    (turn s₁.heap.objs.size H2.objs.size H1.objs.size) (fun h tk gs ys news m₂ j off F' N' hn hb' ht' => ?_)
    its.size 0 h₁ s₁.toks s₁.gens [] news _ rfl (Nat.zero_le _) hit (hl.at fun o e => up _ o (up1 _ o e)) hns₁ (F.keeps fun b o e => up _ o (up1 _ o e)) (fun p hp => ?_) (fun p hp => ?_) h0 hb ht
  · exact codeAny_compStart_list loop (wpAny_pyIter_listiter hit loop)
  · have hL₀ : g.get? env.locals = none := by rw [hLe]; exact Heap.get?_none_of_le F'.above
    have hoff : ∀ p ∈ (H1.objs.size, LCg.lst ys) :: news, @Ne Nat p.1 H2.objs.size := fun p hp => by
      rcases List.mem_cons.mp hp with rfl | hp
      · exact neN (by omega)
      · exact fun q => off p hp (by rw [show p.1 = H2.objs.size from q]; simp [compEnvC])
    refine wpAny_assign_Name (wpAny_storeName_local hy (by rw [hLe]; exact F'.ns) (fun h₂ hn₂ hs₂ => ?_) hp)
    rw [hLe] at hn₂ hs₂ hL₀
    have F₂ : Fr g L h₂ (fun z => if z = y then some (.ref H1.objs.size) else m z) := ⟨hn₂, fun b o e => hs₂.extBut b o (fun q => by rw [show b = L from q, hL₀] at e; cases e) (F'.keep b o e), F'.above⟩
    have N₂ : News g L h₂ ((H1.objs.size, LCg.lst ys) :: news) := fun p hp => ⟨hs₂.extBut _ _ (N' p hp).2.1 (N' p hp).1, (N' p hp).2⟩
    refine ⟨m₂, hn.sameBut hs₂ (by show @Ne Nat H2.objs.size _; exact neN (by omega)), fun h'' hs'' => ?_⟩
    obtain ⟨F'', N''⟩ := but1 (fun b o hb e => hs''.extBut b o hb e) (fresh _ (by show @LE.le Nat _ _ H2.objs.size; omega)) (neN (by omega)) F₂ N₂ hoff
    exact fin _ h'' (tk + 1) gs ys news j (fun p hp q => off p hp (by rw [q]; simp)) F'' N'' hb' (Nat.succ_pos _)
  · rcases List.mem_cons.mp hp with rfl | hp
    · exact ⟨hD1, neN (by omega), fresh _ (by omega)⟩
    · exact ⟨up _ _ (up1 _ _ (N p hp).1), (N p hp).2⟩
  · have := low _ _ (N p hp).1
    intro hm
    simp only [List.mem_cons, List.not_mem_nil, or_false, compEnvC] at hm
    rcases hm with q | q | q
    · exact absurd q (neN (by omega))
    · exact absurd q (neN (by omega))
    · exact absurd q (neN (by omega))
end Mine
end
section
open PySem PySem.W PyProof.Rows PySem.Calls
namespace Mine
theorem ctE_use {w : World} {lvl : Nat} {f : Addr} {args : List Value} {g : Tok → Value} (C : Ct w lvl f args (fun _ => True) (fun v _ _ => ∃ t, v = g t))
    {A : Around} {h₀ : Heap} {L : Addr} {s : Shared} {m : Str → Option Value} {news : List (Addr × Obj)} {Q : Value → Shared → Prop} {E : Value → Shared → Prop}
    (h1 : A.handled = none) (h2 : A.depth ≤ lvl) (h3 : A.units ≤ lvl) (F : Fr h₀ L s.heap m) (N : News h₀ L s.heap news) (G : Good w h₀)
    (h : ∀ t h' tk', Fr h₀ L h' m → News h₀ L h' news → Q (g t) { s with heap := h', toks := tk' }) : wpAny (model pw w) A (call (.ref f) args) Q E s :=
  ct_use C h1 h2 h3 F N G trivial fun v h' tk' ht _ F' N' => by obtain ⟨t, rfl⟩ := ht; exact h t h' tk' F' N'
theorem ctpE_use {w : World} {lvl : Nat} {f : Addr} {args : List Value} {g : Tok → Value} (C : Ctp w lvl f args (fun v _ _ => ∃ t, v = g t))
    {A : Around} {h₀ : Heap} {L : Addr} {s : Shared} {m : Str → Option Value} {news : List (Addr × Obj)} {Q : Value → Shared → Prop} {E : Value → Shared → Prop}
    (h1 : A.handled = none) (h2 : A.depth ≤ lvl) (h3 : A.units ≤ lvl) (F : Fr h₀ L s.heap m) (N : News h₀ L s.heap news) (G : Good w h₀) (hp : 0 < s.toks)
    (h : ∀ t h' tk', Fr h₀ L h' m → News h₀ L h' news → 0 < tk' → Q (g t) { s with heap := h', toks := tk' }) : wpAny (model pw w) A (call (.ref f) args) Q E s :=
  ctp_use C h1 h2 h3 F N G hp fun v h' tk' ht _ F' N' k => by obtain ⟨t, rfl⟩ := ht; exact h t h' tk' F' N' k
end Mine
end
section
open PySem PySem.W PyProof.Rows
namespace Mine
set_option maxHeartbeats 8000000 in
theorem ifmt_ct {w : World} {md : Int} {tk : Tok} : Ct w 690 94 [.int md tk] (fun _ => True) (fun v _ _ => ∃ t, v = .int (Builtin.bitAnd md 61440) t) := by
  intro A s E h1 hd hu G hpre
  refine wp_up h1 hd hu ?_
  clear h1 hd hu A
  have X := G.X
  obtain ⟨p, loose, mg, mb, T⟩ := G.T
  refine wpAny_call ?_
  k_dflt (refine' call_plain_ret (binds := [(PySem.Str.ofString "mode", .int md tk)]) ?k8 ?ho ?hd ?hl ?hcd ?hb ?hloc ?_ ?c1 ?c2 ?c3 ?c4; (case ho => exact X 94 _ (by k_is)); (case hd => exact rfl); (case k8 => exact Nat.le_of_ble_eq_true rfl); (case hl => exact T.nolimit); (case hcd => exact codeRec_of X (by k_is)); (case hb => exact rfl); (case hloc => exact locs rfl); (case c1 => exact rfl); (case c2 => exact rfl); (case c3 => exact rfl); (case c4 => decide); k_whole)
  intro h₁ F
  have N := news0 (h₀ := s.heap) (h := h₁) (L := s.heap.objs.size)
  dsimp only
  generalize s.heap.objs.size = L at F N ⊢
  generalize s.toks + _ = tk0
  (try k_fold)
  k_steps
  exact Ret.mk (by assumption) rfl ⟨_, rfl⟩
end Mine
end
example : True := by first | walk1 | trivial
section
open PySem PySem.W PyProof.Rows
namespace Mine
local macro_rules | `(tactic| walk_at "z") => `(tactic| first | assumption | rfl | exact Nat.le_of_ble_eq_true rfl | (intro _; intros; try dsimp only))
local macro_rules | `(tactic| walk_at "call ref") => `(tactic| ((apply ctE_use ifmt_ct <;> walk_at "z"); try k_fold))
noncomputable def fmT : List (List (Int × Str)) := [[(40960, Str.ofString "l"), (49152, Str.ofString "s"), (32768, Str.ofString "-"), (24576, Str.ofString "b"), (16384, Str.ofString "d"), (8192, Str.ofString "c"), (4096, Str.ofString "p")],
  [(256, Str.ofString "r")], [(128, Str.ofString "w")], [(2112, Str.ofString "s"), (2048, Str.ofString "S"), (64, Str.ofString "x")],
  [(32, Str.ofString "r")], [(16, Str.ofString "w")], [(1032, Str.ofString "s"), (1024, Str.ofString "S"), (8, Str.ofString "x")],
  [(4, Str.ofString "r")], [(2, Str.ofString "w")], [(513, Str.ofString "t"), (512, Str.ofString "T"), (1, Str.ofString "x")]]
noncomputable def fmHit (md : Int) (i : Nat) (b : Int) : Bool := if i = 0 then Builtin.bitAnd md 61440 == b else Builtin.bitAnd md b == b
noncomputable def fmPick (md : Int) (i : Nat) : List (Int × Str) → Str
  | [] => if i = 0 then Str.ofString "?" else Str.ofString "-"
  | (b, c) :: r => if fmHit md i b then c else fmPick md i r
noncomputable def fmOut (md : Int) : List Str := fmT.zipIdx.map fun p => fmPick md p.2 p.1
/-- a table's rows as they lie in the heap -/
inductive Rows (h : Heap) : List Value → List (Int × Str) → Prop
  | nil : Rows h [] []
  | cons {a : Addr} {b : Int} {c : Str} {t1 t2 : Tok} {vs rs} : h.IsTuple a #[.int b t1, .str c t2] → Rows h vs rs → Rows h (.ref a :: vs) ((b, c) :: rs)
theorem Rows.refs {h : Heap} {vs rs} (r : Rows h vs rs) : ∀ v ∈ vs, ∃ a, v = .ref a := by
  induction r with
  | nil => intro v hv; cases hv
  | cons _ _ ih => intro v hv; rcases List.mem_cons.mp hv with rfl | hv; exact ⟨_, rfl⟩; exact ih v hv
theorem Rows.at {h : Heap} {vs rs} (r : Rows h vs rs) : ∀ (i : Nat) (v : Value), vs[i]? = some v → ∃ a b c t1 t2, v = .ref a ∧ rs[i]? = some (b, c) ∧ h.IsTuple a #[.int b t1, .str c t2] := by
  induction r with
  | nil => intro i v hv; cases hv
  | cons ht _ ih =>
    intro i v hv
    cases i with
    | zero => cases hv; exact ⟨_, _, _, _, _, rfl, rfl, ht⟩
    | succ i => exact ih i v hv
theorem Rows.len {h : Heap} {vs rs} (r : Rows h vs rs) : vs.length = rs.length := by
  induction r with
  | nil => rfl
  | cons _ _ ih => simp [ih]
/-- the whole table -/
inductive Tabs (h : Heap) : List Value → List (List (Int × Str)) → Prop
  | nil : Tabs h [] []
  | cons {a : Addr} {vs : List Value} {rs : List (Int × Str)} {us ts} : h.IsTuple a vs.toArray → Rows h vs rs → Tabs h us ts → Tabs h (.ref a :: us) (rs :: ts)
theorem Tabs.at {h : Heap} {us ts} (r : Tabs h us ts) : ∀ (i : Nat) (v : Value), us[i]? = some v → ∃ a vs rs, v = .ref a ∧ ts[i]? = some rs ∧ h.IsTuple a vs.toArray ∧ Rows h vs rs := by
  induction r with
  | nil => intro i v hv; cases hv
  | cons ht hr _ ih =>
    intro i v hv
    cases i with
    | zero => cases hv; exact ⟨_, _, _, rfl, rfl, ht, hr⟩
    | succ i => exact ih i v hv
noncomputable def fmItems : List Value := [.ref 102, .ref 104, .ref 106, .ref 110, .ref 112, .ref 114, .ref 118, .ref 120, .ref 122, .ref 126]
theorem tup_K {w : World} {h : Heap} {a : Addr} {vs : List Value} {n : Nat} {d : Option Addr} {sl : Array (Option Value)} (X : (hd.heap_39 w.params).In h) (e : (hd.heap_39 w.params).lookup a = some ⟨.type "tuple", d, .seq vs.toArray n, sl⟩) : h.IsTuple a vs.toArray :=
  ⟨_, X _ _ e, rfl, n, rfl⟩
theorem tabs_K {w : World} {h : Heap} (X : (hd.heap_39 w.params).In h) : h.IsTuple 127 fmItems.toArray ∧ Tabs h fmItems fmT := by
  refine ⟨tup_K X (by k_is), ?_⟩
  refine .cons (tup_K X (by k_is)) (.cons (tup_K X (by k_is)) (.cons (tup_K X (by k_is)) (.cons (tup_K X (by k_is)) (.cons (tup_K X (by k_is)) (.cons (tup_K X (by k_is)) (.cons (tup_K X (by k_is)) (.cons (tup_K X (by k_is)) .nil))))))) ?_
  refine .cons (tup_K X (by k_is)) (.cons (tup_K X (by k_is)) .nil) ?_
  refine .cons (tup_K X (by k_is)) (.cons (tup_K X (by k_is)) .nil) ?_
  refine .cons (tup_K X (by k_is)) (.cons (tup_K X (by k_is)) (.cons (tup_K X (by k_is)) (.cons (tup_K X (by k_is)) .nil))) ?_
  refine .cons (tup_K X (by k_is)) (.cons (tup_K X (by k_is)) .nil) ?_
  refine .cons (tup_K X (by k_is)) (.cons (tup_K X (by k_is)) .nil) ?_
  refine .cons (tup_K X (by k_is)) (.cons (tup_K X (by k_is)) (.cons (tup_K X (by k_is)) (.cons (tup_K X (by k_is)) .nil))) ?_
  refine .cons (tup_K X (by k_is)) (.cons (tup_K X (by k_is)) .nil) ?_
  refine .cons (tup_K X (by k_is)) (.cons (tup_K X (by k_is)) .nil) ?_
  exact .cons (tup_K X (by k_is)) (.cons (tup_K X (by k_is)) (.cons (tup_K X (by k_is)) (.cons (tup_K X (by k_is)) .nil))) .nil
theorem fmPick_drop {md : Int} {i : Nat} : ∀ {rs : List (Int × Str)} {j : Nat}, (∀ k b c, k < j → rs[k]? = some (b, c) → fmHit md i b = false) → fmPick md i rs = fmPick md i (rs.drop j)
  | [], j, _ => by simp
  | (b, c) :: r, 0, _ => rfl
  | (b, c) :: r, j + 1, h => by
    rw [List.drop_succ_cons, ← fmPick_drop (rs := r) (j := j) fun k b' c' hk e => h (k + 1) b' c' (Nat.succ_lt_succ hk) e]
    show (if fmHit md i b = true then c else fmPick md i r) = _
    rw [h 0 b c (Nat.succ_pos _) rfl]
    simp
theorem hit0 {md : Int} {i : Nat} {b : Int} (h : (i : Int) = 0) (e : Builtin.bitAnd md 61440 = b) : fmHit md i b = true := by
  have : i = 0 := by omega
  simp [fmHit, this, e]
theorem hit1 {md : Int} {i : Nat} {b : Int} (h : (i : Int) ≠ 0) (e : Builtin.bitAnd md b = b) : fmHit md i b = true := by
  have : ¬ i = 0 := by omega
  simp [fmHit, this, e]
theorem hit0n {md : Int} {i : Nat} {b : Int} (h : (i : Int) = 0) (e : Builtin.bitAnd md 61440 ≠ b) : fmHit md i b = false := by
  have : i = 0 := by omega
  simp [fmHit, this, e]
theorem hit1n {md : Int} {i : Nat} {b : Int} (h : (i : Int) ≠ 0) (e : Builtin.bitAnd md b ≠ b) : fmHit md i b = false := by
  have : ¬ i = 0 := by omega
  simp [fmHit, this, e]
theorem no_more {md : Int} {i j : Nat} {b : Int} {c : Str} {rs : List (Int × Str)} (hno : ∀ k b c, k < j → rs[k]? = some (b, c) → fmHit md i b = false) (hrow : rs[j]? = some (b, c)) (h : fmHit md i b = false) :
    ∀ k b c, k < j + 1 → rs[k]? = some (b, c) → fmHit md i b = false := fun k b' c' hk e => by
  rcases Nat.lt_or_ge k j with h1 | h1
  · exact hno k b' c' h1 e
  · have : k = j := by omega
    subst this
    rw [hrow] at e
    cases e
    exact h
theorem take_more {md : Int} {i : Nat} {rs : List (Int × Str)} {vs : List Value} {c : Str} {t : Tok} (hrs : fmT[i]? = some rs) (hvs : Ss vs ((fmOut md).take i)) (hc : fmPick md i rs = c) : Ss (vs ++ [.str c t]) ((fmOut md).take (i + 1)) := by
  have e : (fmOut md)[i]? = some c := by
    unfold fmOut
    rw [List.getElem?_map, List.getElem?_zipIdx, hrs]
    simp [hc]
  rw [List.take_add_one, e]
  exact hvs.snoc
theorem pick_hit {md : Int} {i j : Nat} {b : Int} {c : Str} {rs : List (Int × Str)} (hno : ∀ k b c, k < j → rs[k]? = some (b, c) → fmHit md i b = false) (hrow : rs[j]? = some (b, c)) (h : fmHit md i b = true) : fmPick md i rs = c := by
  rw [fmPick_drop hno]
  obtain ⟨hl, e⟩ := List.getElem?_eq_some_iff.mp hrow
  rw [List.drop_eq_getElem_cons hl, e]
  show (if fmHit md i b = true then c else _) = c
  rw [if_pos h]
theorem pick_no {md : Int} {i : Nat} {rs : List (Int × Str)} (hno : ∀ k b c, k < rs.length → rs[k]? = some (b, c) → fmHit md i b = false) : fmPick md i rs = if i = 0 then Str.ofString "?" else Str.ofString "-" := by
  rw [fmPick_drop hno, List.drop_length]
  rfl
theorem sub_push {P : Addr} {vs : List Value} {x : Value} {n : Nat} {own own2 : List (Addr × Obj)} : ∀ p ∈ [(P, W.listOf (vs ++ [x]).toArray n)] ++ own, p ∈ (P, W.listOf (vs.toArray.push x) n) :: (own ++ own2) := by
  intro p hp
  rcases List.mem_append.mp hp with hp | hp
  · rw [List.mem_singleton.mp hp]
    simp
  · exact List.mem_cons_of_mem _ (List.mem_append_left _ hp)
theorem sub_push0 {P : Addr} {vs : List Value} {x : Value} {n : Nat} {own : List (Addr × Obj)} : ∀ p ∈ [(P, W.listOf (vs ++ [x]).toArray n)] ++ own, p ∈ (P, W.listOf (vs.toArray.push x) n) :: own := by
  intro p hp
  rcases List.mem_append.mp hp with hp | hp
  · rw [List.mem_singleton.mp hp]
    simp
  · exact List.mem_cons_of_mem _ hp
theorem Ss.pairs {vs : List Value} {cs : List Str} (h : Ss vs cs) : ∃ l : List (Str × Tok), vs = strValues l ∧ l.map (·.1) = cs := by
  induction h with
  | nil => exact ⟨[], rfl, rfl⟩
  | @cons c t vs cs _ ih =>
    obtain ⟨l, rfl, rfl⟩ := ih
    exact ⟨(c, t) :: l, rfl, rfl⟩
noncomputable def fmText (md : Int) : Str := Txt.join (Str.ofString "") (fmOut md)
theorem fmPick_le {md : Int} {i : Nat} : ∀ {rs : List (Int × Str)}, (∀ p ∈ rs, p.2.length ≤ 1) → (fmPick md i rs).length ≤ 1
  | [], _ => by
    show (if i = 0 then Str.ofString "?" else Str.ofString "-").length ≤ 1
    by_cases h : i = 0
    · rw [if_pos h]; exact Nat.le_of_ble_eq_true rfl
    · rw [if_neg h]; exact Nat.le_of_ble_eq_true rfl
  | (b, c) :: r, h => by
    show (if fmHit md i b then c else fmPick md i r).length ≤ 1
    by_cases q : fmHit md i b = true
    · rw [if_pos q]; exact h _ (.head _)
    · rw [if_neg q]; exact fmPick_le fun p hp => h p (List.mem_cons_of_mem _ hp)
theorem fmT_le : ∀ rs ∈ fmT, ∀ p ∈ rs, p.2.length ≤ 1 := by decide
theorem fmOk (md : Int) : JoinOk (Str.ofString "") (fmOut md) = true := by
  unfold JoinOk
  rw [StrLaws.joinFits (B := 1) _ (Nat.le_of_ble_eq_true rfl)]
  · rfl
  · intro y hy
    obtain ⟨p, hp, rfl⟩ := List.mem_map.mp hy
    refine fmPick_le fun q hq => fmT_le p.1 ?_ q hq
    obtain ⟨_, e⟩ := List.mem_zipIdx' hp
    exact e ▸ List.getElem_mem _
local macro_rules | `(tactic| walk_at "execs cons") => `(tactic| (refine wpAny_execs_cons ?_; try k_fold))
set_option maxHeartbeats 8000000 in
theorem fm_ct {w : World} {md : Int} {tk : Tok} : Ct w 680 134 [.int md tk] (fun _ => True) (fun v _ _ => ∃ t, v = .str (fmText md) t) := by
  intro A s E h1 hd hu G hpre
  refine wp_up h1 hd hu ?_
  clear h1 hd hu A
  have X := G.X
  obtain ⟨p, loose, mg, mb, T⟩ := G.T
  refine wpAny_call ?_
  k_dflt (refine' call_plain_ret (binds := [(PySem.Str.ofString "mode", .int md tk)]) ?k8 ?ho ?hd ?hl ?hcd ?hb ?hloc ?_ ?c1 ?c2 ?c3 ?c4; (case ho => exact X 134 _ (by k_is)); (case hd => exact rfl); (case k8 => exact Nat.le_of_ble_eq_true rfl); (case hl => exact T.nolimit); (case hcd => exact codeRec_of X (by k_is)); (case hb => exact rfl); (case hloc => exact locs rfl); (case c1 => exact rfl); (case c2 => exact rfl); (case c3 => exact rfl); (case c4 => decide); k_whole)
  intro h₁ F
  have N := news0 (h₀ := s.heap) (h := h₁) (L := s.heap.objs.size)
  dsimp only
  generalize s.heap.objs.size = L at F N ⊢
  generalize s.toks + _ = tk0
  (try k_fold)
  obtain ⟨hT, hTabs⟩ := tabs_K X
  refine cut (α := Addr) s.heap L (fun P => [(Str.ofString "mode", .int md tk), (Str.ofString "perm", .ref P)]) (fun P => [(P, W.listOf #[] 0)]) ?_ ?_
  · k_steps
    refine Nx.mk _ rfl (by assumption) ⟨rfl, rfl, trivial⟩ (by assumption) (fun _ h => h)
  intro P h2 tk2 m2 F2 N2
  clear F N
  refine cut (α := {a : List Value × Nat // Ss a.1 (fmOut md)}) s.heap L (fun _ => [(Str.ofString "mode", .int md tk), (Str.ofString "perm", .ref P)]) (fun a => [(P, W.listOf a.1.1.toArray a.1.2)]) ?_ ?_
  · refine wpAny_For ?_
    k_steps
    refine call_enumerate_tup (hT.at fun o e => F2.keep _ o e) fun h3 he hi hz hk => ?_
    refine wpAny_pyIter_enum he ?_
    have hL2 : @LT.lt Nat _ L h2.objs.size := F2.ns.lt
    have hP2 : @LT.lt Nat _ P h2.objs.size := Heap.lt_size (N2 _ (.head _)).1
    have hPL : @Ne Nat P L := (N2 _ (.head _)).2.1
    have hP127 : @Ne Nat P 127 := fun e => by
      have q := (N2 _ (.head _)).2.2
      obtain ⟨o, ho, _⟩ := hT
      rw [show ((P, W.listOf #[] 0) : Addr × Obj).1 = 127 from e, ho] at q
      cases q
    have h127 : 127 < s.heap.objs.size :=
      by obtain ⟨_, e, _⟩ := hT; exact Heap.lt_size e
    have hsL : s.heap.objs.size ≤ L := F2.above
    have hnew : ∀ b : Nat, h2.objs.size ≤ b → s.heap.get? b = none := fun b hb => by
      cases q : s.heap.get? b with
      | none => rfl
      | some o => exact absurd (Heap.lt_size (F2.keep _ _ q)) (Nat.not_lt.mpr hb)
    have F3 := Fr.kept F2 hk
    have N3 := News.kept N2 hk
    have hT3 : h3.IsTuple 127 fmItems.toArray := hT.at fun o e => F3.keep _ o e
    clear F2 N2
    dsimp only at he hi hz hk ⊢
    generalize h2.objs.size = I at he hi hz hk hL2 hP2 hnew ⊢
    refine forS (g := s.heap) (L := L) (Src.enumTup rfl (I + 1) I 127 (neN (by omega)) (neN (by omega)) (neN (by omega)) fmItems.toArray)
      (fun i m' news' => ∃ vs n, Has m' [(Str.ofString "mode", .int md tk), (Str.ofString "perm", .ref P)] ∧ news' = [(P, W.listOf vs.toArray n)] ∧ Ss vs ((fmOut md).take i))
      (off3 (neN (by omega)) (neN (by omega)) (neN (by omega))) (by exact two_none (hnew _ (Nat.le_succ _)) (hnew _ (Nat.le_refl _))) (by exact one_off (off2 (neN (by omega)) (neN (by omega)))) ⟨⟨_, he⟩, hi, hT3⟩ F3 N3
      ⟨[], 0, ⟨rfl, rfl, trivial⟩, rfl, by simpa using Ss.nil⟩ ?_ ?_
    · intro i v m₁ news₁ h tk1 own hlt hP hJ hnw hown F N
      obtain ⟨tp, t, x, rfl, hx, htp⟩ := hP
      obtain ⟨vs, n, Hm, rfl, hvs⟩ := hJ
      obtain ⟨a, rvs, rs, rfl, hrs, hta, hrows⟩ := hTabs.at i x (by simpa using hx)
      rw [← Hm.over] at F
      have hvz : vs.toArray.size ≤ sizeLine := by
        have := hvs.length
        rw [List.length_take] at this
        rw [sizeLine_eq, List.size_toArray]
        have h10 : (fmOut md).length = 10 := rfl
        omega
      refine asg2 rfl htp F N rfl rfl rfl fun h4 tk4 F4 N4 => ?_
      have hoff : OwnOff own [P] := own_off hown (off3 (neN (by omega)) (neN (by omega)) (neN (by omega)))
      clear F N
      refine wpAny_execs_cons (wpAny_For ?_)
      refine ld F4 rfl ?_
      refine wpAny_pyIter_tuple (hta.at fun o e => F4.keep _ o e) ?_
      have hk5 : ∀ b o, h4.get? b = some o → (h4.push { cls := .type "tuple_iterator", data := .fields #[.ref a, .int 0 0] }).get? b = some o := fun b o e => Heap.get?_push_of_some _ e
      have F5 := Fr.kept F4 hk5
      have N5 := News.kept N4 hk5
      have hit5 : (h4.push { cls := .type "tuple_iterator", data := .fields #[.ref a, .int 0 0] }).IsTupleIter h4.objs.size a 0 := ⟨_, Heap.get?_push_size _ rfl, rfl, rfl⟩
      have hta5 : (h4.push { cls := .type "tuple_iterator", data := .fields #[.ref a, .int 0 0] }).IsTuple a rvs.toArray := hta.at fun o e => F5.keep _ o e
      have hlow : ∀ q ∈ ([(P, W.listOf vs.toArray n)] ++ own : List (Addr × Obj)), @LT.lt Nat _ q.1 h4.objs.size := fun q hq => Heap.lt_size (N4 q hq).1
      have hP4 : @LT.lt Nat _ P h4.objs.size := hlow _ (.head _)
      have ha : @LT.lt Nat _ a s.heap.objs.size := by obtain ⟨_, e, _⟩ := hta; exact Heap.lt_size e
      have hL4 : @LT.lt Nat _ L h4.objs.size := F4.ns.lt
      have hnew4 : s.heap.get? h4.objs.size = none := by
        cases q : s.heap.get? h4.objs.size with
        | none => rfl
        | some o => exact absurd (Heap.lt_size (F4.keep _ _ q)) (Nat.lt_irrefl _)
      have hPa : @Ne Nat P a := fun e => by
        have q := (N4 _ (.head _)).2.2
        obtain ⟨o, ho, _⟩ := hta
        rw [show ((P, W.listOf vs.toArray n) : Addr × Obj).1 = a from e, ho] at q
        cases q
      clear hk5 F4 N4
      dsimp only at F5 N5 hit5 hta5 hlow hP4 hL4 hnew4 ⊢
      generalize h4.push _ = h5 at F5 N5 hit5 hta5 ⊢
      generalize h4.objs.size = I2 at hit5 hlow hP4 hL4 hnew4 ⊢
      have hi10 : i < 10 := hlt
      refine forS (g := s.heap) (L := L) (Src.tup rfl I2 a (neN (by omega)) rvs.toArray (fun v hv => hrows.refs v (by simpa using hv)))
        (fun j m' news' => Has m' [(Str.ofString "mode", .int md tk), (Str.ofString "perm", .ref P), (Str.ofString "index", .int i t)] ∧ news' = [(P, W.listOf vs.toArray n)] ++ own ∧ ∀ k b c, k < j → rs[k]? = some (b, c) → fmHit md i b = false)
        (by exact off2 (neN (by omega)) (neN (by omega))) (by exact one_none hnew4) (by intro q hq hm; exact absurd (List.mem_singleton.mp hm) (Nat.ne_of_lt (hlow q hq))) ⟨hit5, hta5⟩ F5 N5
        ⟨⟨rfl, rfl, rfl, trivial⟩, rfl, fun _ _ _ h => absurd h (Nat.not_lt_zero _)⟩ ?_ ?_
      · intro j v m₂ news₂ h6 tk6 own2 hlt2 hP2' hJ2 hnw2 hown2 F6 N6
        obtain ⟨Hm2, rfl, hno⟩ := hJ2
        obtain ⟨ra, b, c, t1, t2, rfl, hrow, htup⟩ := hrows.at j v (by simpa using hP2')
        rw [← Hm2.over] at F6
        refine asg2 rfl (htup.at fun o e => F6.keep _ o e) F6 N6 rfl rfl rfl fun h7 tk7 F7 N7 => ?_
        clear F6 N6
        have hoff2 : OwnOff (own ++ own2) [P] := fun p hp b' hb' => by
          rcases List.mem_append.mp hp with hp | hp
          · exact hoff p hp b' hb'
          · exact own_off hown2 (off2 (neN (by omega)) (neN (by omega))) p hp b' hb'
        simp only [List.cons_append, List.nil_append] at N7
        clear F5 N5
        k_steps
        all_goals first
          | (show TurnP _ _ _ _ _ _ _ _ Flow.brk _
             refine TurnP.brk ?_
             show wpAny _ _ (execs [] _) _ _ _
             refine wpAny_execs_nil ?_
             refine TurnP.next [(P, W.listOf (vs ++ [Value.str c t2]).toArray (n + 1))] rfl (by assumption) (by assumption) ?hs ?hn ⟨_, _, ⟨rfl, rfl, trivial⟩, rfl, take_more hrs hvs (pick_hit hno hrow (by first | exact hit0 (by assumption) (by assumption) | exact hit1 (by assumption) (by assumption)))⟩
             case hn => exact one_off (off2 (neN (by omega)) (neN (by omega)))
             case hs => exact sub_push)
          | (refine TurnP.next ([(P, W.listOf vs.toArray n)] ++ own) rfl (by assumption) (by assumption) ?_ hnw2 ⟨⟨rfl, rfl, rfl, trivial⟩, rfl, no_more hno hrow (by first | exact hit0n (by assumption) (by assumption) | exact hit1n (by assumption) (by assumption))⟩
             intro p hp
             simpa using hp)
          | (trace_state; fail "end")
      · intro m₂ news₂ h6 tk6 hJ2 F6 N6
        obtain ⟨Hm2, rfl, hno⟩ := hJ2
        rw [← Hm2.over] at F6
        simp only [List.cons_append, List.nil_append] at N6
        clear F5 N5
        k_steps
        all_goals first
          | (refine TurnP.next [(P, W.listOf (vs ++ [Value.str (Str.ofString "?") _]).toArray (n + 1))] rfl (by assumption) (by assumption) sub_push0 (one_off (off2 (neN (by omega)) (neN (by omega)))) ⟨_, _, ⟨rfl, rfl, trivial⟩, rfl, take_more hrs hvs ((pick_no (by rw [← hrows.len]; simpa using hno)).trans (if_pos (by omega)))⟩)
          | (refine TurnP.next [(P, W.listOf (vs ++ [Value.str (Str.ofString "-") _]).toArray (n + 1))] rfl (by assumption) (by assumption) sub_push0 (one_off (off2 (neN (by omega)) (neN (by omega)))) ⟨_, _, ⟨rfl, rfl, trivial⟩, rfl, take_more hrs hvs ((pick_no (by rw [← hrows.len]; simpa using hno)).trans (if_neg (by omega)))⟩)
          | (trace_state; fail "end2")
    · intro m₁ news₁ h tk1 hJ F N
      obtain ⟨vs, n, Hm, rfl, hvs⟩ := hJ
      refine wpAny_execs_nil ?_
      exact Nx.mk ⟨(vs, n), by rwa [List.take_of_length_le (Nat.le_refl 10)] at hvs⟩ rfl F Hm N fun _ h => h
  intro a h3 tk3 m3 F3 N3
  obtain ⟨⟨vs, n⟩, hvs⟩ := a
  clear F2 N2
  dsimp only at hvs F3 N3 ⊢
  obtain ⟨l, hl, hl2⟩ := hvs.pairs
  k_steps
  refine SC.join (l := l) (texts := fmOut md) (by rw [← hl]; exact ⟨_, (N3 _ (.head _)).1, rfl, _, rfl⟩) hl2 (fmOk md) fun t' k => ?_
  (try dsimp only)
  exact Ret.mk F3 rfl ⟨_, rfl⟩
end Mine
end
example : True := by first | walk1 | trivial
section
open PySem PySem.W PyProof.Rows
namespace Mine
local macro_rules | `(tactic| walk_at "Exists") => `(tactic| (refine kdp_made_int (by k_asm) (by k_asm) (TopRead.nolimit (by k_asm)) (by rfl) (of_decide_eq_true (by rfl)) (by rfl) ?_; intro h' o' F' N' l1 lo' hd' hf' ap'; (try k_lt l1)))
noncomputable def sgT (bits : Int) : Str := if bits.fdiv 4096 = 10 then Str.ofString "l" else if bits.fdiv 4096 = 12 then Str.ofString "s" else if bits.fdiv 4096 = 8 then Str.ofString "-" else if bits.fdiv 4096 = 6 then Str.ofString "b"
  else if bits.fdiv 4096 = 4 then Str.ofString "d" else if bits.fdiv 4096 = 2 then Str.ofString "c" else if bits.fdiv 4096 = 1 then Str.ofString "p" else Str.ofString "?"
noncomputable def sgThree (bits : Int) : Nat → Int
  | 0 => (bits.fdiv 64).fmod 8
  | 1 => (bits.fdiv 8).fmod 8
  | _ => (bits.fdiv 1).fmod 8
noncomputable def sgSt (bits : Int) : Nat → Int
  | 0 => ((bits.fdiv 512).fdiv 4).fmod 2
  | 1 => ((bits.fdiv 512).fdiv 2).fmod 2
  | _ => ((bits.fdiv 512).fdiv 1).fmod 2
noncomputable def sgLast (bits : Int) (i : Nat) : Str := if (sgThree bits i).fmod 2 = 1 then (if i = 2 then Str.ofString "t" else Str.ofString "s") else (if i = 2 then Str.ofString "T" else Str.ofString "S")
noncomputable def sgEnd (bits : Int) (i : Nat) : Str := if sgSt bits i = 1 then sgLast bits i else if (sgThree bits i).fmod 2 = 1 then Str.ofString "x" else Str.ofString "-"
noncomputable def sgText (bits : Int) : Nat → Str
  | 0 => sgT bits
  | i + 1 => sgText bits i ++ (if sgThree bits i > 3 then Str.ofString "r" else Str.ofString "-") ++ (if ((sgThree bits i).fdiv 2).fmod 2 = 1 then Str.ofString "w" else Str.ofString "-") ++ sgEnd bits i
noncomputable def sgMid (bits : Int) (i : Nat) : Str := sgText bits i ++ (if sgThree bits i > 3 then Str.ofString "r" else Str.ofString "-") ++ (if ((sgThree bits i).fdiv 2).fmod 2 = 1 then Str.ofString "w" else Str.ofString "-")
theorem sgLast_len {bits : Int} {i : Nat} : (sgLast bits i).length ≤ 1 := by
  unfold sgLast
  (repeat' split) <;> exact Nat.le_of_ble_eq_true rfl
theorem sgEnd_len {bits : Int} {i : Nat} : (sgEnd bits i).length ≤ 1 := by
  unfold sgEnd
  (repeat' split) <;> first | exact sgLast_len | exact Nat.le_of_ble_eq_true rfl
theorem sgMid_le {bits : Int} {i : Nat} : (sgMid bits i).length ≤ (sgText bits i).length + 2 := by
  unfold sgMid
  rw [Str.length_append, Str.length_append]
  (repeat' split) <;> exact Nat.le_refl _
theorem sgText_le {bits : Int} : ∀ i : Nat, (sgText bits i).length ≤ 1 + 3 * i
  | 0 => by
    show (sgT bits).length ≤ 1
    unfold sgT
    (repeat' split) <;> exact Nat.le_of_ble_eq_true rfl
  | i + 1 => by
    show (sgMid bits i ++ sgEnd bits i).length ≤ _
    rw [Str.length_append]
    have := sgText_le (bits := bits) i
    have := sgMid_le (bits := bits) (i := i)
    have := sgEnd_len (bits := bits) (i := i)
    omega
noncomputable def sgBody : List Stmt := (prts (nthS (fdOf 36).2.1 1)).2.1
noncomputable def sgRest : List Stmt := sgBody.drop 2
noncomputable def sgScope : Scope := (fdOf 36).2.2
noncomputable def sgMd (tx : Str) (z : Int) : Str := tx ++ (if z > 3 then Str.ofString "r" else Str.ofString "-") ++ (if (z.fdiv 2).fmod 2 = 1 then Str.ofString "w" else Str.ofString "-")
noncomputable def sgFn (tx la : Str) (bits z kk : Int) : Str := sgMd tx z ++ (if ((bits.fdiv 512).fdiv (2 ^ kk.toNat)).fmod 2 = 1 then la else if z.fmod 2 = 1 then Str.ofString "x" else Str.ofString "-")
theorem sgMd_len {tx : Str} {z : Int} (h : tx.length ≤ 100) : (sgMd tx z).length ≤ 1000 := by
  unfold sgMd
  rw [Str.length_append, Str.length_append]
  have a : (if z > 3 then Str.ofString "r" else Str.ofString "-").length ≤ 1 := by split <;> exact Nat.le_of_ble_eq_true rfl
  have b : (if (z.fdiv 2).fmod 2 = 1 then Str.ofString "w" else Str.ofString "-").length ≤ 1 := by split <;> exact Nat.le_of_ble_eq_true rfl
  omega
theorem wp_idS {α : Type} {M : Model} {A : Around} {t : Sem α} {Q : α → Shared → Prop} {E : Value → Shared → Prop} {s : Shared} (h : wpAny M A t Q E s) : wpAny M A t Q E s := h
theorem pow2_k {prog : Program} {w : World} {A : Around} {E : Value → Shared → Prop} {s : Shared} {k : Int} {t u : Tok} {Q : Value → Shared → Prop} (hk : k = 0 ∨ k = 1 ∨ k = 2) (h : ∀ t' tk, Q (.int (2 ^ k.toNat) t') { s with toks := tk }) : wpAny (model prog w) A (binaryOp .Pow (.int 2 t) (.int k u)) Q E s := by
  rcases hk with rfl | rfl | rfl <;> exact pow_int_small (by decide) (by decide) (by decide) (h _ _)
set_option maxHeartbeats 4000000 in
theorem sg_rest {w : World} {g : Heap} {L : Addr} {s : Shared} {bits kk z : Int} {tk u q1 tt tl : Tok} {tx la : Str} {more : Value} {m : Str → Option Value} {news : List (Addr × Obj)} {Q : Flow → Shared → Prop} {E : Value → Shared → Prop}
    (G : Good w g) (F : Fr g L s.heap (over [(Str.ofString "bits", .int bits tk), (Str.ofString "text", .str tx tt), (Str.ofString "k", .int kk u), (Str.ofString "more", more), (Str.ofString "three", .int z q1), (Str.ofString "last", .str la tl)] m)) (N : News g L s.heap news)
    (hk : kk = 0 ∨ kk = 1 ∨ kk = 2) (hb0 : 0 ≤ bits) (hb1 : bits < 65536) (hz0 : 0 ≤ z) (hz1 : z < 8) (hlen : tx.length ≤ 100) (hla : la.length ≤ 1)
    (h : ∀ t h' tk' m', Fr g L h' m' → Has m' [(Str.ofString "bits", .int bits tk), (Str.ofString "text", .str (sgFn tx la bits z kk) t)] → News g L h' news → Q .next { s with heap := h', toks := tk' }) :
    wpAny (model pw w) ((A0 680).deeper (envOf (Str.ofString "_law_signs") sgScope L 146 (.ref 145))) (execs sgRest (envOf (Str.ofString "_law_signs") sgScope L 146 (.ref 145))) Q E s := by
  conv in (occs := *) sgScope => all_goals whnf
  conv in sgRest => whnf
  refine wp_idS ?_
  have X := G.X
  obtain ⟨p, loose, mg, mb, T⟩ := G.T
  have hm := sgMd_len (z := z) hlen
  refine cut (α := {p : Str × Tok // p.1 = sgMd tx z}) ?g5 ?L5 ?l5 ?n5 ?h5a ?h5b
  case g5 => exact g
  case L5 => exact L
  case l5 => exact fun p => [(Str.ofString "bits", .int bits tk), (Str.ofString "text", .str p.1.1 p.1.2), (Str.ofString "k", .int kk u), (Str.ofString "more", more), (Str.ofString "three", .int z q1), (Str.ofString "last", .str la tl)]
  case n5 => exact fun _ => news
  · have hlen0 : tx.length ≤ 1000 := by omega
    k_steps
    all_goals (refine Nx.mk ⟨(_, _), ?_⟩ rfl (by assumption) ⟨rfl, rfl, rfl, rfl, rfl, rfl, trivial⟩ (by assumption) (fun _ h => h))
    all_goals (unfold sgMd; (repeat' split) <;> first | rfl | (exfalso; omega))
  intro q3 h7 tk7 m7 F7 N7
  obtain ⟨⟨midv, tm⟩, hmid⟩ := q3
  clear F N
  dsimp only at hmid F7
  subst hmid
  k_steps
  all_goals (try dsimp only)
  all_goals (refine h _ _ _ _ (by assumption) ⟨rfl, Mine.tx ?_, trivial⟩ (by assumption))
  all_goals (show _ = sgMd tx z ++ (if ((bits.fdiv 512).fdiv (2 ^ kk.toNat)).fmod 2 = 1 then la else if z.fmod 2 = 1 then Str.ofString "x" else Str.ofString "-"))
  all_goals ((repeat' split) <;> first | rfl | (exfalso; omega))
set_option maxHeartbeats 4000000 in
theorem sg_turn {w : World} {g : Heap} {L : Addr} {s : Shared} {bits kk : Int} {i : Nat} {tk u tt tm : Tok} {tx mo : Str} {m : Str → Option Value} {news : List (Addr × Obj)} {Q : Flow → Shared → Prop}
    (G : Good w g) (F : Fr g L s.heap (over [(Str.ofString "bits", .int bits tk), (Str.ofString "text", .str tx tt), (Str.ofString "k", .int kk u), (Str.ofString "more", .str mo tm)] m)) (N : News g L s.heap news)
    (hc : (i = 0 ∧ kk = 2 ∧ mo = Str.ofString "s") ∨ (i = 1 ∧ kk = 1 ∧ mo = Str.ofString "s") ∨ (i = 2 ∧ kk = 0 ∧ mo = Str.ofString "t")) (hb0 : 0 ≤ bits) (hb1 : bits < 65536) (hlen : tx.length ≤ 100)
    (h : ∀ t h' tk' m', Fr g L h' m' → Has m' [(Str.ofString "bits", .int bits tk), (Str.ofString "text", .str (sgFn tx (sgLast bits i) bits (sgThree bits i) kk) t)] → News g L h' news → Q .next { s with heap := h', toks := tk' }) :
    wpAny (model pw w) ((A0 680).deeper (envOf (Str.ofString "_law_signs") sgScope L 146 (.ref 145))) (execs sgBody (envOf (Str.ofString "_law_signs") sgScope L 146 (.ref 145))) Q NoE s := by
  conv in (occs := *) sgScope => all_goals whnf
  conv in sgBody => whnf
  refine wp_idS ?_
  have X := G.X
  obtain ⟨p, loose, mg, mb, T⟩ := G.T
  refine cut (α := Tok) ?g3 ?L3 ?l3 ?n3 ?h3a ?h3b
  case g3 => exact g
  case L3 => exact L
  case l3 => exact fun t => [(Str.ofString "bits", .int bits tk), (Str.ofString "text", .str tx tt), (Str.ofString "k", .int kk u), (Str.ofString "more", .str mo tm), (Str.ofString "three", .int (sgThree bits i) t)]
  case n3 => exact fun _ => news
  · rcases hc with ⟨rfl, rfl, rfl⟩ | ⟨rfl, rfl, rfl⟩ | ⟨rfl, rfl, rfl⟩ <;> (k_steps; exact Nx.mk _ rfl (by assumption) ⟨rfl, rfl, rfl, rfl, rfl, trivial⟩ (by assumption) (fun _ h => h))
  intro q1 h5 tk5 m5 F5 N5
  clear F N
  refine cut (α := {p : Str × Tok // p.1 = sgLast bits i}) ?g4 ?L4 ?l4 ?n4 ?h4a ?h4b
  case g4 => exact g
  case L4 => exact L
  case l4 => exact fun p => [(Str.ofString "bits", .int bits tk), (Str.ofString "text", .str tx tt), (Str.ofString "k", .int kk u), (Str.ofString "more", .str mo tm), (Str.ofString "three", .int (sgThree bits i) q1), (Str.ofString "last", .str p.1.1 p.1.2)]
  case n4 => exact fun _ => news
  · have hm : (mo = Str.ofString "s" ∧ i ≠ 2) ∨ (mo = Str.ofString "t" ∧ i = 2) := by rcases hc with ⟨rfl, _, rfl⟩ | ⟨rfl, _, rfl⟩ | ⟨rfl, _, rfl⟩ <;> simp
    clear hc h
    have e : sgLast bits i = if (sgThree bits i).fmod 2 = 1 then (if i = 2 then Str.ofString "t" else Str.ofString "s") else (if i = 2 then Str.ofString "T" else Str.ofString "S") := rfl
    generalize sgThree bits i = z at F5 e ⊢
    rcases hm with ⟨rfl, hi⟩ | ⟨rfl, hi⟩
    · rw [if_neg hi, if_neg hi] at e
      k_steps
      · exact Nx.mk ⟨(Str.ofString "s", _), (e.trans (if_pos (by assumption))).symm⟩ rfl (by assumption) ⟨rfl, rfl, rfl, rfl, rfl, rfl, trivial⟩ (by assumption) (fun _ h => h)
      · exact Nx.mk ⟨(Str.ofString "S", _), (e.trans (if_neg (by assumption))).symm⟩ rfl (by assumption) ⟨rfl, rfl, rfl, rfl, rfl, rfl, trivial⟩ (by assumption) (fun _ h => h)
    · rw [if_pos hi, if_pos hi] at e
      k_steps
      · exact Nx.mk ⟨(Str.ofString "t", _), (e.trans (if_pos (by assumption))).symm⟩ rfl (by assumption) ⟨rfl, rfl, rfl, rfl, rfl, rfl, trivial⟩ (by assumption) (fun _ h => h)
      · exact Nx.mk ⟨(Str.ofString "T", _), (e.trans (if_neg (by assumption))).symm⟩ rfl (by assumption) ⟨rfl, rfl, rfl, rfl, rfl, rfl, trivial⟩ (by assumption) (fun _ h => h)
  intro q2 h6 tk6 m6 F6 N6
  obtain ⟨⟨lastv, tl⟩, hlast⟩ := q2
  clear F5 N5
  dsimp only at hlast F6
  subst hlast
  have hz0 : 0 ≤ sgThree bits i := by rcases hc with ⟨rfl, _⟩ | ⟨rfl, _⟩ | ⟨rfl, _⟩ <;> exact Int.fmod_nonneg_of_pos _ (by decide)
  have hz1 : sgThree bits i < 8 := by rcases hc with ⟨rfl, _⟩ | ⟨rfl, _⟩ | ⟨rfl, _⟩ <;> exact Int.fmod_lt_of_pos _ (by decide)
  exact sg_rest G F6 N6 (by rcases hc with ⟨_, rfl, _⟩ | ⟨_, rfl, _⟩ | ⟨_, rfl, _⟩ <;> decide) hb0 hb1 hz0 hz1 hlen sgLast_len h
set_option maxHeartbeats 8000000 in
theorem sg_ct {w : World} {bits : Int} {tk : Tok} (hb0 : 0 ≤ bits) (hb1 : bits < 65536) : Ct w 680 146 [.int bits tk] (fun _ => True) (fun v _ _ => ∃ t, v = .str (sgText bits 3) t) := by
  intro A s E h1 hd hu G hpre
  refine wp_up h1 hd hu ?_
  clear h1 hd hu A
  have X := G.X
  obtain ⟨p, loose, mg, mb, T⟩ := G.T
  refine wpAny_call ?_
  k_dflt (refine' call_plain_ret (binds := [(PySem.Str.ofString "bits", .int bits tk)]) ?k8 ?ho ?hd ?hl ?hcd ?hb ?hloc ?_ ?c1 ?c2 ?c3 ?c4; (case ho => exact X 146 _ (by k_is)); (case hd => exact rfl); (case k8 => exact Nat.le_of_ble_eq_true rfl); (case hl => exact T.nolimit); (case hcd => exact codeRec_of X (by k_is)); (case hb => exact rfl); (case hloc => exact locs rfl); (case c1 => exact rfl); (case c2 => exact rfl); (case c3 => exact rfl); (case c4 => decide); k_whole)
  intro h₁ F
  have N := news0 (h₀ := s.heap) (h := h₁) (L := s.heap.objs.size)
  dsimp only
  generalize s.heap.objs.size = L at F N ⊢
  generalize s.toks + _ = tk0
  (try k_fold)
  refine cut (α := {p : Str × Tok // p.1 = sgT bits}) ?g1 ?L1 ?l1 ?n1 ?h1a ?h1b
  case g1 => exact s.heap
  case L1 => exact L
  case l1 => exact fun p => [(Str.ofString "bits", .int bits tk), (Str.ofString "text", .str p.1.1 p.1.2)]
  case n1 => exact fun _ => []
  · k_steps
    all_goals first
      | (refine Nx.mk ⟨(_, _), ?_⟩ rfl (by assumption) ⟨rfl, rfl, trivial⟩ (by assumption) (fun _ h => nomatch h)
         unfold sgT
         (repeat' split) <;> first | rfl | (exfalso; omega))
  intro tx h2 tk2 m2 F2 N2
  obtain ⟨⟨tx, tt⟩, htx⟩ := tx
  dsimp only at htx F2 N2
  subst htx
  clear F N
  refine cut (α := Tok) ?g2 ?L2 ?l2 ?n2 ?h2a ?h2b
  case g2 => exact s.heap
  case L2 => exact L
  case l2 => exact fun t => [(Str.ofString "bits", .int bits tk), (Str.ofString "text", .str (sgText bits 3) t)]
  case n2 => exact fun _ => []
  · refine wpAny_For ?_
    refine ecut (α := Addr × Addr × Addr × Addr × Tok × Tok × Tok × Tok × Tok × Tok) ?g ?L ?m ?v ?n ?h1 ?h2
    case g => exact s.heap
    case L => exact L
    case v => exact fun (P, a2, a1, a0, t2, t1, t0, u2, u1, u0) => .ref P
    case n => exact fun (P, a2, a1, a0, t2, t1, t0, u2, u1, u0) => [(P, W.listOf #[.ref a2, .ref a1, .ref a0] 0), (a0, W.listOf #[.int 0 u0, .str (Str.ofString "t") t0] 0), (a1, W.listOf #[.int 1 u1, .str (Str.ofString "s") t1] 0), (a2, W.listOf #[.int 2 u2, .str (Str.ofString "s") t2] 0)]
    case m => exact over [(Str.ofString "bits", .int bits tk), (Str.ofString "text", .str (sgT bits) tt)] m2
    · k_steps
      exact Nv.mk (_, _, _, _, _, _, _, _, _, _) rfl rfl (by assumption) (by assumption) (fun _ h => h)
    rintro ⟨P, a2, a1, a0, t2, t1, t0, u2, u1, u0⟩ h3 tk3 F3 N3
    clear F2 N2
    dsimp only at N3 ⊢
    refine wpAny_pyIter_list ⟨_, (N3 _ (.head _)).1, rfl, _, rfl⟩ ?_
    have hk5 : ∀ b o, h3.get? b = some o → (h3.push { cls := .type "list_iterator", data := .fields #[.ref P, .int 0 0] }).get? b = some o := fun b o e => Heap.get?_push_of_some _ e
    have F5 := Fr.kept F3 hk5
    have N5 := News.kept N3 hk5
    have hit5 : (h3.push { cls := .type "list_iterator", data := .fields #[.ref P, .int 0 0] }).IsListIter h3.objs.size P 0 := ⟨_, Heap.get?_push_size _ rfl, rfl, rfl⟩
    have hl5 : (h3.push { cls := .type "list_iterator", data := .fields #[.ref P, .int 0 0] }).IsList P #[.ref a2, .ref a1, .ref a0] := ⟨_, (N5 _ (.head _)).1, rfl, _, rfl⟩
    have hlow : ∀ q ∈ ([(P, W.listOf #[.ref a2, .ref a1, .ref a0] 0), (a0, W.listOf #[.int 0 u0, .str (Str.ofString "t") t0] 0), (a1, W.listOf #[.int 1 u1, .str (Str.ofString "s") t1] 0), (a2, W.listOf #[.int 2 u2, .str (Str.ofString "s") t2] 0)] : List (Addr × Obj)), @LT.lt Nat _ q.1 h3.objs.size := fun q hq => Heap.lt_size (N3 q hq).1
    have hL4 : @LT.lt Nat _ L h3.objs.size := F3.ns.lt
    have hP4 : @LT.lt Nat _ P h3.objs.size := hlow _ (.head _)
    have hPL : @Ne Nat P L := (N3 _ (.head _)).2.1
    have hnew4 : s.heap.get? h3.objs.size = none := by
      cases q : s.heap.get? h3.objs.size with
      | none => rfl
      | some o => exact absurd (Heap.lt_size (F3.keep _ _ q)) (Nat.lt_irrefl _)
    clear hk5 F3 N3
    dsimp only at F5 N5 hit5 hl5 hlow hP4 hL4 hnew4 ⊢
    generalize h3.push _ = h5 at F5 N5 hit5 hl5 ⊢
    generalize h3.objs.size = I2 at hit5 hlow hP4 hL4 hnew4 ⊢
    have hnw : ∀ q ∈ ([(P, W.listOf #[.ref a2, .ref a1, .ref a0] 0), (a0, W.listOf #[.int 0 u0, .str (Str.ofString "t") t0] 0), (a1, W.listOf #[.int 1 u1, .str (Str.ofString "s") t1] 0), (a2, W.listOf #[.int 2 u2, .str (Str.ofString "s") t2] 0)] : List (Addr × Obj)), q.1 ∉ [I2] := fun q hq hm => absurd (List.mem_singleton.mp hm) (Nat.ne_of_lt (hlow q hq))
    refine forS (g := s.heap) (L := L) (Src.listT rfl I2 P (neN (by omega)) #[.ref a2, .ref a1, .ref a0] (by intro v hv; simp at hv; rcases hv with rfl | rfl | rfl <;> exact ⟨_, rfl⟩))
      (fun i m' news' => ∃ tt, Has m' [(Str.ofString "bits", .int bits tk), (Str.ofString "text", .str (sgText bits i) tt)] ∧ news' = [(P, W.listOf #[.ref a2, .ref a1, .ref a0] 0), (a0, W.listOf #[.int 0 u0, .str (Str.ofString "t") t0] 0), (a1, W.listOf #[.int 1 u1, .str (Str.ofString "s") t1] 0), (a2, W.listOf #[.int 2 u2, .str (Str.ofString "s") t2] 0)])
      (by exact off2 (neN (by omega)) (neN (by omega))) (by exact one_none hnew4) hnw ⟨hit5, hl5⟩ F5 N5
      ⟨tt, ⟨rfl, rfl, trivial⟩, rfl⟩ ?_ ?_
    · intro i v m₁ news₁ h tk1 own hlt hP hJ hnw hown F N
      obtain ⟨tt, Hm, rfl⟩ := hJ
      rw [← Hm.over] at F
      clear F5 N5
      have hi : i = 0 ∨ i = 1 ∨ i = 2 := by
        have : i < 3 := hlt
        omega
      rcases hi with rfl | rfl | rfl
      · obtain rfl : v = .ref a2 := by cases hP; rfl
        refine asgl2 rfl ⟨_, (N (a2, W.listOf #[.int 2 u2, .str (Str.ofString "s") t2] 0) (by simp)).1, rfl, _, rfl⟩ F N rfl rfl rfl fun h4 tk4 F4 N4 => sg_turn (i := 0) (tx := sgText bits 0) (tt := tt) (u := u2) (tm := t2) G (Fr.over F4 ⟨rfl, rfl, rfl, rfl, trivial⟩) N4 (.inl ⟨rfl, rfl, rfl⟩) hb0 hb1 (Nat.le_trans (sgText_le 0) (by decide)) fun t h' tk' m' F' H' N' => TurnP.next [(P, W.listOf #[.ref a2, .ref a1, .ref a0] 0), (a0, W.listOf #[.int 0 u0, .str (Str.ofString "t") t0] 0), (a1, W.listOf #[.int 1 u1, .str (Str.ofString "s") t1] 0), (a2, W.listOf #[.int 2 u2, .str (Str.ofString "s") t2] 0)] rfl F' N' (fun _ h => h) hnw ⟨_, H', rfl⟩
      · obtain rfl : v = .ref a1 := by cases hP; rfl
        refine asgl2 rfl ⟨_, (N (a1, W.listOf #[.int 1 u1, .str (Str.ofString "s") t1] 0) (by simp)).1, rfl, _, rfl⟩ F N rfl rfl rfl fun h4 tk4 F4 N4 => sg_turn (i := 1) (tx := sgText bits 1) (tt := tt) (u := u1) (tm := t1) G (Fr.over F4 ⟨rfl, rfl, rfl, rfl, trivial⟩) N4 (.inr (.inl ⟨rfl, rfl, rfl⟩)) hb0 hb1 (Nat.le_trans (sgText_le 1) (by decide)) fun t h' tk' m' F' H' N' => TurnP.next [(P, W.listOf #[.ref a2, .ref a1, .ref a0] 0), (a0, W.listOf #[.int 0 u0, .str (Str.ofString "t") t0] 0), (a1, W.listOf #[.int 1 u1, .str (Str.ofString "s") t1] 0), (a2, W.listOf #[.int 2 u2, .str (Str.ofString "s") t2] 0)] rfl F' N' (fun _ h => h) hnw ⟨_, H', rfl⟩
      · obtain rfl : v = .ref a0 := by cases hP; rfl
        refine asgl2 rfl ⟨_, (N (a0, W.listOf #[.int 0 u0, .str (Str.ofString "t") t0] 0) (by simp)).1, rfl, _, rfl⟩ F N rfl rfl rfl fun h4 tk4 F4 N4 => sg_turn (i := 2) (tx := sgText bits 2) (tt := tt) (u := u0) (tm := t0) G (Fr.over F4 ⟨rfl, rfl, rfl, rfl, trivial⟩) N4 (.inr (.inr ⟨rfl, rfl, rfl⟩)) hb0 hb1 (Nat.le_trans (sgText_le 2) (by decide)) fun t h' tk' m' F' H' N' => TurnP.next [(P, W.listOf #[.ref a2, .ref a1, .ref a0] 0), (a0, W.listOf #[.int 0 u0, .str (Str.ofString "t") t0] 0), (a1, W.listOf #[.int 1 u1, .str (Str.ofString "s") t1] 0), (a2, W.listOf #[.int 2 u2, .str (Str.ofString "s") t2] 0)] rfl F' N' (fun _ h => h) hnw ⟨_, H', rfl⟩
    · intro m₁ news₁ h tk1 hJ F N
      obtain ⟨tt, Hm, rfl⟩ := hJ
      refine wpAny_execs_nil ?_
      exact Nx.mk tt rfl F Hm N fun _ h => nomatch h
  intro a h3 tk3 m3 F3 N3
  clear F2 N2
  k_steps
  show Ret _ _ _ _
  exact Ret.mk F3 rfl ⟨_, rfl⟩
end Mine
end
section
open PySem PySem.W PyProof.Rows
namespace Mine
theorem bitAnd_nat (n m : Nat) : Builtin.bitAnd (n : Int) (m : Int) = ((n &&& m : Nat) : Int) := by
  unfold Builtin.bitAnd
  rw [decide_eq_true (Int.natCast_nonneg n), decide_eq_true (Int.natCast_nonneg m)]
  rfl
theorem and_all (n c : Nat) : n &&& c = c ↔ ∀ i, c.testBit i = true → n.testBit i = true := by
  constructor
  · intro h i hi
    rw [← h, Nat.testBit_and, Bool.and_eq_true] at hi
    exact hi.1
  · intro h
    apply Nat.eq_of_testBit_eq
    intro i
    rw [Nat.testBit_and]
    cases hc : c.testBit i with
    | false => exact Bool.and_false _
    | true => rw [h i hc]; rfl
theorem and_pow (n k : Nat) : n &&& 2 ^ k = 2 ^ k ↔ n / 2 ^ k % 2 = 1 := by
  rw [and_all]
  have e : n.testBit k = decide (n / 2 ^ k % 2 = 1) := Nat.testBit_eq_decide_div_mod_eq
  constructor
  · intro h
    have := h k (by rw [Nat.testBit_two_pow]; simp)
    rw [e] at this
    exact of_decide_eq_true this
  · intro h i hi
    rw [Nat.testBit_two_pow] at hi
    rw [← of_decide_eq_true hi, e]
    exact decide_eq_true h
theorem and_pow2 (n j k : Nat) : n &&& (2 ^ j ||| 2 ^ k) = (2 ^ j ||| 2 ^ k) ↔ n / 2 ^ j % 2 = 1 ∧ n / 2 ^ k % 2 = 1 := by
  rw [← and_pow n j, ← and_pow n k, and_all, and_all, and_all]
  constructor
  · intro h
    exact ⟨fun i hi => h i (by rw [Nat.testBit_or, hi]; rfl), fun i hi => h i (by rw [Nat.testBit_or, hi, Bool.or_true])⟩
  · intro h i hi
    rw [Nat.testBit_or, Bool.or_eq_true] at hi
    rcases hi with hi | hi
    · exact h.1 i hi
    · exact h.2 i hi
theorem bhit1 {n i : Nat} {b : Int} (k : Nat) (hi : i ≠ 0) (hb : b = ((2 ^ k : Nat) : Int)) : fmHit (n : Int) i b = decide (n / 2 ^ k % 2 = 1) := by
  unfold fmHit
  rw [if_neg hi, hb, bitAnd_nat, Bool.eq_iff_iff, beq_iff_eq, decide_eq_true_iff, ← and_pow]
  omega
theorem bhit2 {n i : Nat} {b : Int} (j k : Nat) (hi : i ≠ 0) (hb : b = ((2 ^ j ||| 2 ^ k : Nat) : Int)) : fmHit (n : Int) i b = decide (n / 2 ^ j % 2 = 1 ∧ n / 2 ^ k % 2 = 1) := by
  unfold fmHit
  rw [if_neg hi, hb, bitAnd_nat, Bool.eq_iff_iff, beq_iff_eq, decide_eq_true_iff, ← and_pow2]
  omega
theorem and_top {n : Nat} (h : n < 65536) : n &&& 61440 = 4096 * (n / 4096) := by
  apply Nat.eq_of_testBit_eq
  intro i
  rw [Nat.testBit_and, show (4096 : Nat) = 2 ^ 12 from rfl, Nat.testBit_two_pow_mul]
  by_cases hi : 12 ≤ i
  · rw [decide_eq_true hi, Bool.true_and, Nat.testBit_div_two_pow, Nat.sub_add_cancel hi]
    by_cases h16 : i < 16
    · rw [(by decide : ∀ i, i < 16 → 12 ≤ i → (61440 : Nat).testBit i = true) i h16 hi, Bool.and_true]
    · have : n.testBit i = false := Nat.testBit_lt_two_pow (Nat.lt_of_lt_of_le h (by show 2 ^ 16 ≤ 2 ^ i; exact Nat.pow_le_pow_right (by decide) (Nat.le_of_not_lt h16)))
      rw [this]; rfl
  · rw [decide_eq_false hi, Bool.false_and, (by decide : ∀ i, i < 12 → (61440 : Nat).testBit i = false) i (Nat.lt_of_not_le hi), Bool.and_false]
theorem bhit0 {n : Nat} (h : n < 65536) {b : Int} (a : Nat) (hb : b = ((4096 * a : Nat) : Int)) : fmHit (n : Int) 0 b = decide (n / 4096 = a) := by
  unfold fmHit
  rw [if_pos rfl, show (61440 : Int) = ((61440 : Nat) : Int) from rfl, bitAnd_nat, and_top h, hb, Bool.eq_iff_iff, beq_iff_eq, decide_eq_true_iff]
  omega
end Mine
end
section
open PySem PySem.W PyProof.Rows
namespace Mine
theorem fdN (n c : Nat) : ((n : Int)).fdiv (c : Int) = ((n / c : Nat) : Int) := by
  rw [Int.fdiv_eq_ediv_of_nonneg _ (Int.natCast_nonneg c)]; rfl
theorem fmN (n c : Nat) : ((n : Int)).fmod (c : Int) = ((n % c : Nat) : Int) := by
  rw [Int.fmod_eq_emod_of_nonneg _ (Int.natCast_nonneg c)]; rfl
theorem join10 (a b c d e f g h i j : Str) : Txt.join (Str.ofString "") [a, b, c, d, e, f, g, h, i, j] = a ++ b ++ c ++ d ++ e ++ f ++ g ++ h ++ i ++ j := by
  have e0 : (Str.ofString "").cps = #[] := rfl
  unfold Txt.join Builtin.Str.glued
  simp only [List.drop, List.foldl, List.headD, e0, Array.append_empty]
  rfl
theorem sgThree0 (n : Nat) : sgThree (n : Int) 0 = ((n / 64 % 8 : Nat) : Int) := by
  show (((n : Int)).fdiv ((64 : Nat) : Int)).fmod ((8 : Nat) : Int) = _
  rw [fdN, fmN]
theorem sgThree1 (n : Nat) : sgThree (n : Int) 1 = ((n / 8 % 8 : Nat) : Int) := by
  show (((n : Int)).fdiv ((8 : Nat) : Int)).fmod ((8 : Nat) : Int) = _
  rw [fdN, fmN]
theorem sgThree2 (n : Nat) : sgThree (n : Int) 2 = ((n / 1 % 8 : Nat) : Int) := by
  show (((n : Int)).fdiv ((1 : Nat) : Int)).fmod ((8 : Nat) : Int) = _
  rw [fdN, fmN]
theorem sgSt0 (n : Nat) : sgSt (n : Int) 0 = ((n / 512 / 4 % 2 : Nat) : Int) := by
  show ((((n : Int)).fdiv ((512 : Nat) : Int)).fdiv ((4 : Nat) : Int)).fmod ((2 : Nat) : Int) = _
  rw [fdN, fdN, fmN]
theorem sgSt1 (n : Nat) : sgSt (n : Int) 1 = ((n / 512 / 2 % 2 : Nat) : Int) := by
  show ((((n : Int)).fdiv ((512 : Nat) : Int)).fdiv ((2 : Nat) : Int)).fmod ((2 : Nat) : Int) = _
  rw [fdN, fdN, fmN]
theorem sgSt2 (n : Nat) : sgSt (n : Int) 2 = ((n / 512 / 1 % 2 : Nat) : Int) := by
  show ((((n : Int)).fdiv ((512 : Nat) : Int)).fdiv ((1 : Nat) : Int)).fmod ((2 : Nat) : Int) = _
  rw [fdN, fdN, fmN]
theorem dm2 (m : Nat) : (((m : Nat) : Int).fdiv 2).fmod 2 = ((m / 2 % 2 : Nat) : Int) := by
  show ((((m : Int)).fdiv ((2 : Nat) : Int))).fmod ((2 : Nat) : Int) = _
  rw [fdN, fmN]
theorem mm2 (m : Nat) : ((m : Nat) : Int).fmod 2 = ((m % 2 : Nat) : Int) := by
  show ((m : Int)).fmod ((2 : Nat) : Int) = _
  rw [fmN]
theorem typ {n : Nat} (h : n < 65536) : fmPick (n : Int) 0 [(40960, Str.ofString "l"), (49152, Str.ofString "s"), (32768, Str.ofString "-"), (24576, Str.ofString "b"), (16384, Str.ofString "d"), (8192, Str.ofString "c"), (4096, Str.ofString "p")] = sgT (n : Int) := by
  unfold sgT
  rw [show ((n : Int)).fdiv 4096 = ((n / 4096 : Nat) : Int) from fdN n 4096]
  simp only [fmPick, bhit0 h (b := 40960) 10 rfl, bhit0 h (b := 49152) 12 rfl, bhit0 h (b := 32768) 8 rfl, bhit0 h (b := 24576) 6 rfl, bhit0 h (b := 16384) 4 rfl, bhit0 h (b := 8192) 2 rfl, bhit0 h (b := 4096) 1 rfl]
  have ha : n / 4096 < 16 := by omega
  generalize n / 4096 = a at ha ⊢
  revert a
  decide +kernel
theorem pk1 {n i k : Nat} {b : Int} {c : Str} {p : Prop} [Decidable p] (hi : i ≠ 0) (hb : b = ((2 ^ k : Nat) : Int)) (hp : p ↔ n / 2 ^ k % 2 = 1) : fmPick (n : Int) i [(b, c)] = if p then c else Str.ofString "-" := by
  simp only [fmPick, bhit1 k hi hb, if_neg hi]
  by_cases q : p
  · rw [if_pos q, if_pos (decide_eq_true (hp.mp q))]
  · rw [if_neg q, if_neg (by rw [decide_eq_true_iff]; exact fun x => q (hp.mpr x))]
theorem pk3 {n i j k : Nat} {b1 b2 b3 : Int} {c1 c2 c3 : Str} (hi : i ≠ 0) (h1 : b1 = ((2 ^ j ||| 2 ^ k : Nat) : Int)) (h2 : b2 = ((2 ^ k : Nat) : Int)) (h3 : b3 = ((2 ^ j : Nat) : Int)) :
    fmPick (n : Int) i [(b1, c1), (b2, c2), (b3, c3)] = if n / 2 ^ k % 2 = 1 then (if n / 2 ^ j % 2 = 1 then c1 else c2) else if n / 2 ^ j % 2 = 1 then c3 else Str.ofString "-" := by
  simp only [fmPick, bhit2 j k hi h1, bhit1 k hi h2, bhit1 j hi h3, if_neg hi]
  by_cases p : n / 2 ^ k % 2 = 1 <;> by_cases q : n / 2 ^ j % 2 = 1 <;> simp [p, q]
theorem cst (m : Nat) : ((m : Nat) : Int) = 1 ↔ m = 1 := ⟨fun h => Int.ofNat.inj h, fun h => by rw [h]; rfl⟩
theorem om1 (m : Nat) : (((m % 8 : Nat) : Int) > 3) ↔ m / 4 % 2 = 1 := by
  rw [← Nat.mod_mul_right_div_self m 4 2]
  exact (by decide : ∀ r, r < 8 → ((((r : Nat) : Int) > 3) ↔ r / 4 = 1)) _ (Nat.mod_lt m (by decide))
theorem om2 (m : Nat) : ((m % 8 / 2 % 2 : Nat) : Int) = 1 ↔ m / 2 % 2 = 1 := by
  rw [show m % 8 / 2 = m / 2 % 4 from Nat.mod_mul_right_div_self m 2 4, Nat.mod_mod_of_dvd _ (by decide)]
  exact cst _
theorem om3 (m : Nat) : ((m % 8 % 2 : Nat) : Int) = ((m % 2 : Nat) : Int) := by rw [Nat.mod_mod_of_dvd m (by decide)]
theorem dv (n a b c : Nat) (h : a * b = c) : n / a / b = n / c := by rw [Nat.div_div_eq_div_mul, h]
theorem ifc {α : Type} {p q : Prop} [Decidable p] [Decidable q] {x y : α} (h : p ↔ q) : (if p then x else y) = if q then x else y := by
  by_cases hp : p
  · rw [if_pos hp, if_pos (h.mp hp)]
  · rw [if_neg hp, if_neg fun q => hp (h.mpr q)]
theorem endN {S a : Nat} {t1 t2 x d : Str} : (if ((S : Nat) : Int) = 1 then (if ((a : Nat) : Int) = 1 then t1 else t2) else if ((a : Nat) : Int) = 1 then x else d) = if S = 1 then (if a = 1 then t1 else t2) else if a = 1 then x else d := by
  rw [ifc (cst S), ifc (cst a), ifc (cst a)]
theorem sg_fm {n : Nat} (h : n < 65536) : sgText (n : Int) 3 = fmText (n : Int) := by
  show sgT (n : Int) ++ (if sgThree (n : Int) 0 > 3 then Str.ofString "r" else Str.ofString "-") ++ (if ((sgThree (n : Int) 0).fdiv 2).fmod 2 = 1 then Str.ofString "w" else Str.ofString "-") ++ sgEnd (n : Int) 0
    ++ (if sgThree (n : Int) 1 > 3 then Str.ofString "r" else Str.ofString "-") ++ (if ((sgThree (n : Int) 1).fdiv 2).fmod 2 = 1 then Str.ofString "w" else Str.ofString "-") ++ sgEnd (n : Int) 1
    ++ (if sgThree (n : Int) 2 > 3 then Str.ofString "r" else Str.ofString "-") ++ (if ((sgThree (n : Int) 2).fdiv 2).fmod 2 = 1 then Str.ofString "w" else Str.ofString "-") ++ sgEnd (n : Int) 2
    = Txt.join (Str.ofString "") [fmPick (n : Int) 0 [(40960, Str.ofString "l"), (49152, Str.ofString "s"), (32768, Str.ofString "-"), (24576, Str.ofString "b"), (16384, Str.ofString "d"), (8192, Str.ofString "c"), (4096, Str.ofString "p")],
      fmPick (n : Int) 1 [(256, Str.ofString "r")], fmPick (n : Int) 2 [(128, Str.ofString "w")], fmPick (n : Int) 3 [(2112, Str.ofString "s"), (2048, Str.ofString "S"), (64, Str.ofString "x")],
      fmPick (n : Int) 4 [(32, Str.ofString "r")], fmPick (n : Int) 5 [(16, Str.ofString "w")], fmPick (n : Int) 6 [(1032, Str.ofString "s"), (1024, Str.ofString "S"), (8, Str.ofString "x")],
      fmPick (n : Int) 7 [(4, Str.ofString "r")], fmPick (n : Int) 8 [(2, Str.ofString "w")], fmPick (n : Int) 9 [(513, Str.ofString "t"), (512, Str.ofString "T"), (1, Str.ofString "x")]]
  rw [join10, typ h]
  rw [pk1 (i := 1) (b := 256) (c := Str.ofString "r") (k := 8) (p := sgThree (n : Int) 0 > 3) (by decide) rfl (by rw [sgThree0]; show _ ↔ n / 256 % 2 = 1; rw [← dv n 64 4 256 rfl]; exact om1 _),
    pk1 (i := 2) (b := 128) (c := Str.ofString "w") (k := 7) (p := ((sgThree (n : Int) 0).fdiv 2).fmod 2 = 1) (by decide) rfl (by rw [sgThree0, dm2]; show _ ↔ n / 128 % 2 = 1; rw [← dv n 64 2 128 rfl]; exact om2 _),
    pk1 (i := 4) (b := 32) (c := Str.ofString "r") (k := 5) (p := sgThree (n : Int) 1 > 3) (by decide) rfl (by rw [sgThree1]; show _ ↔ n / 32 % 2 = 1; rw [← dv n 8 4 32 rfl]; exact om1 _),
    pk1 (i := 5) (b := 16) (c := Str.ofString "w") (k := 4) (p := ((sgThree (n : Int) 1).fdiv 2).fmod 2 = 1) (by decide) rfl (by rw [sgThree1, dm2]; show _ ↔ n / 16 % 2 = 1; rw [← dv n 8 2 16 rfl]; exact om2 _),
    pk1 (i := 7) (b := 4) (c := Str.ofString "r") (k := 2) (p := sgThree (n : Int) 2 > 3) (by decide) rfl (by rw [sgThree2]; show _ ↔ n / 4 % 2 = 1; rw [← dv n 1 4 4 rfl]; exact om1 _),
    pk1 (i := 8) (b := 2) (c := Str.ofString "w") (k := 1) (p := ((sgThree (n : Int) 2).fdiv 2).fmod 2 = 1) (by decide) rfl (by rw [sgThree2, dm2]; show _ ↔ n / 2 % 2 = 1; rw [← dv n 1 2 2 rfl]; exact om2 _)]
  rw [pk3 (i := 3) (b1 := 2112) (b2 := 2048) (b3 := 64) (j := 6) (k := 11) (by decide) rfl rfl rfl, pk3 (i := 6) (b1 := 1032) (b2 := 1024) (b3 := 8) (j := 3) (k := 10) (by decide) rfl rfl rfl, pk3 (i := 9) (b1 := 513) (b2 := 512) (b3 := 1) (j := 0) (k := 9) (by decide) rfl rfl rfl]
  have g0 : sgEnd (n : Int) 0 = if n / 2 ^ 11 % 2 = 1 then (if n / 2 ^ 6 % 2 = 1 then Str.ofString "s" else Str.ofString "S") else if n / 2 ^ 6 % 2 = 1 then Str.ofString "x" else Str.ofString "-" := by
    unfold sgEnd sgLast
    rw [sgSt0, sgThree0, mm2, om3]
    show (if ((n / 512 / 4 % 2 : Nat) : Int) = 1 then (if ((n / 64 % 2 : Nat) : Int) = 1 then _ else _) else if ((n / 64 % 2 : Nat) : Int) = 1 then _ else _) = _
    rw [endN, dv n 512 4 2048 rfl]
    rfl
  have g1 : sgEnd (n : Int) 1 = if n / 2 ^ 10 % 2 = 1 then (if n / 2 ^ 3 % 2 = 1 then Str.ofString "s" else Str.ofString "S") else if n / 2 ^ 3 % 2 = 1 then Str.ofString "x" else Str.ofString "-" := by
    unfold sgEnd sgLast
    rw [sgSt1, sgThree1, mm2, om3]
    show (if ((n / 512 / 2 % 2 : Nat) : Int) = 1 then (if ((n / 8 % 2 : Nat) : Int) = 1 then _ else _) else if ((n / 8 % 2 : Nat) : Int) = 1 then _ else _) = _
    rw [endN, dv n 512 2 1024 rfl]
    rfl
  have g2 : sgEnd (n : Int) 2 = if n / 2 ^ 9 % 2 = 1 then (if n / 2 ^ 0 % 2 = 1 then Str.ofString "t" else Str.ofString "T") else if n / 2 ^ 0 % 2 = 1 then Str.ofString "x" else Str.ofString "-" := by
    unfold sgEnd sgLast
    rw [sgSt2, sgThree2, mm2, om3]
    show (if ((n / 512 / 1 % 2 : Nat) : Int) = 1 then (if ((n / 1 % 2 : Nat) : Int) = 1 then _ else _) else if ((n / 1 % 2 : Nat) : Int) = 1 then _ else _) = _
    rw [endN, dv n 512 1 512 rfl]
    rfl
  rw [g0, g1, g2]
end Mine
end
section
namespace Mine
theorem arr_mid {α : Type} (A K B : Array α) (d e : Nat) (h1 : d ≤ e) (h2 : e ≤ K.size) : ((((A ++ (K ++ B)).toList.drop (A.size + d)).take (e - d)).toArray) = K.extract d e := by
  rw [Array.toList_append, Array.toList_append, ← Array.length_toList, List.drop_append, List.drop_eq_nil_of_le (Nat.le_add_right _ _), Nat.add_sub_cancel_left, List.nil_append, List.drop_append_of_le_length (by rw [Array.length_toList]; exact Nat.le_trans h1 h2), List.take_append_of_le_length (by rw [List.length_drop, Array.length_toList]; exact Nat.sub_le_sub_right h2 d)]
  apply Array.ext'
  rw [Array.toList_extract]
end Mine
end
section
open PySem PySem.W PyProof.Rows
namespace Mine
theorem slice_mid {a k b : Str} {d e : Nat} (h1 : d ≤ e) (h2 : e ≤ k.cps.size) : Txt.slice (a ++ (k ++ b)) (some ((a.length : Int) + d)) (some ((a.length : Int) + e)) = ⟨k.cps.extract d e⟩ := by
  have hl : (a ++ (k ++ b)).length = a.length + (k.length + b.length) := by rw [Str.length_append, Str.length_append]
  have hk : k.length = k.cps.size := rfl
  have h := eq_of_beq (slice_closesL (x := a ++ (k ++ b)) (i := (a.length : Int) + d) (j := (a.length : Int) + e) (by omega) (by omega) (by rw [hl]; omega))
  rw [h]
  refine congrArg Str.mk ?_
  rw [show ((a.length : Int) + d).toNat = a.length + d by omega, show ((a.length : Int) + e - ((a.length : Int) + d)).toNat = e - d by omega]
  exact arr_mid a.cps k.cps b.cps d e h1 h2
end Mine
end
example : True := by first | walk1 | trivial
section
open PySem PySem.W PyProof.Rows
namespace Mine
theorem len_257 : (Str.ofString "257").length = 3 := rfl
theorem len_250 : (Str.ofString "250").length = 3 := rfl
theorem len_a : (Str.ofString " -\"").length = 3 := rfl
theorem len_b : (Str.ofString " \"").length = 2 := rfl
theorem len_c : (Str.ofString "\" ").length = 2 := rfl
theorem len_e : (Str.ofString "").length = 0 := rfl
theorem replp {prog : Program} {w : World} {A : Around} {E : Value → Shared → Prop} {s : Shared} {x y z : Str} {t : Tok} {u : Nat} {Q : Value → Shared → Prop} (hu : 0 < u) (hyz : (y == z) = false) (hx : x.length ≤ 1048576) (hz : z.length ≤ 14) (ht : 0 < s.toks)
    (hq : ∀ t' k, 0 < k → Q (.str (Txt.replace x y z) t') { s with toks := k }) : wpAny (model prog w) A (call (.builtin "str.replace") [.str x t, .str y u, .str z (u + 1)]) Q E s := by
  refine wp_tk' ht (SC.replaceW (Nat.ne_of_gt hu) (Nat.succ_ne_zero u) (Nat.ne_of_lt (Nat.lt_succ_self u)) hyz hx hz fun t' k hk => hq t' k hk)
local macro_rules | `(tactic| walk_at "z") => `(tactic| first | assumption | rfl | exact Nat.le_of_ble_eq_true rfl | omega | (dsimp only; omega) | (intro _; intros; try dsimp only))
local macro_rules | `(tactic| walk_at "call ref") => `(tactic| ((apply ctE_use fm_ct <;> walk_at "z"); try k_fold))
local macro_rules | `(tactic| walk_at "binaryOp Add str str") => `(tactic| (refine addp (by simp only [Str.length_append, len_257, len_250, len_a, len_b, len_c, len_e]; omega) (by walk_at "z") ?_; intro _ _ _ _))
local macro_rules | `(tactic| walk_at "call builtin:str.replace") => `(tactic| (refine replp (by walk_at "z") (by decide) (by omega) (by decide) (by walk_at "z") ?_; intro _ _ _))
noncomputable def rpHead (good : Bool) (name : Str) (bits : Int) : Str := (if good = true then (if bits.fmod 7 = 5 then Str.ofString "257 -\"" else Str.ofString "257 \"") else (if bits.fmod 7 = 5 then Str.ofString "250 -\"" else Str.ofString "250 \"")) ++ Txt.replace name (Str.ofString "\"") (Str.ofString "\"\"")
noncomputable def rpTail (bits : Int) : Str := if bits.fmod 7 = 4 then Str.ofString "" else Str.ofString "\" " ++ fmText bits
theorem rpHead_len {good : Bool} {name : Str} {bits : Int} (hr : (Txt.replace name (Str.ofString "\"") (Str.ofString "\"\"")).length ≤ 1000) : (rpHead good name bits).length ≤ 1010 := by
  unfold rpHead
  rw [Str.length_append]
  have h5 : (if good = true then (if bits.fmod 7 = 5 then Str.ofString "257 -\"" else Str.ofString "257 \"") else (if bits.fmod 7 = 5 then Str.ofString "250 -\"" else Str.ofString "250 \"")).length ≤ 10 := by
    (repeat' split) <;> exact Nat.le_of_ble_eq_true rfl
  omega
theorem fmText_len {md : Int} : (fmText md).length ≤ 100 := by
  have e : fmText md = Str.join (Str.ofString "") (fmOut md) := eq_of_beq (join_plain_closes _ _)
  rw [e]
  refine Nat.le_trans (StrLaws.join_length_le _ _) ?_
  have h1 : ∀ y ∈ fmOut md, y.length ≤ 1 := by
    intro y hy
    obtain ⟨p, hp, rfl⟩ := List.mem_map.mp hy
    refine fmPick_le fun q hq => fmT_le p.1 ?_ q hq
    obtain ⟨_, e⟩ := List.mem_zipIdx' hp
    exact e ▸ List.getElem_mem _
  have h2 := StrLaws.sumLen_le (fmOut md) h1
  have h3 : (fmOut md).length = 10 := rfl
  rw [h3] at h2 ⊢
  have h4 : (Str.ofString "").length = 0 := rfl
  rw [h4]
  omega
theorem tx' {X Y : Str} {t : Tok} (e : X = Y) : Value.str X t = Value.str Y t := by rw [e]
set_option maxHeartbeats 2000000 in
theorem rp_ct {w : World} {good : Bool} {name : Str} {bits : Int} {t1 t2 : Tok} (hn : name.length ≤ 100) (hr : (Txt.replace name (Str.ofString "\"") (Str.ofString "\"\"")).length ≤ 1000) : Ctp w 670 179 [.bool good, .str name t1, .int bits t2] (fun v _ _ => ∃ t, v = .str (rpHead good name bits ++ rpTail bits) t) := by
  intro A s E h1 hd hu G htk
  refine wp_up h1 hd hu ?_
  clear h1 hd hu A
  have X := G.X
  obtain ⟨p, loose, mg, mb, T⟩ := G.T
  refine wpAny_call ?_
  k_dflt (refine' call_plain_ret (binds := [(PySem.Str.ofString "good", .bool good), (PySem.Str.ofString "name", .str name t1), (PySem.Str.ofString "bits", .int bits t2)]) ?k8 ?ho ?hd ?hl ?hcd ?hb ?hloc ?_ ?c1 ?c2 ?c3 ?c4; (case ho => exact X 179 _ (by k_is)); (case hd => exact rfl); (case k8 => exact Nat.le_of_ble_eq_true rfl); (case hl => exact T.nolimit); (case hcd => exact codeRec_of X (by k_is)); (case hb => exact rfl); (case hloc => exact locs rfl); (case c1 => exact rfl); (case c2 => exact rfl); (case c3 => exact rfl); (case c4 => decide); k_whole)
  intro h₁ F
  have N := news0 (h₀ := s.heap) (h := h₁) (L := s.heap.objs.size)
  dsimp only
  generalize s.heap.objs.size = L at F N ⊢
  generalize htk0 : s.toks + _ = tk0
  replace htk0 : 0 < tk0 := by omega
  (try k_fold)
  refine cutp (α := {p : Str × Tok // p.1 = rpHead good name bits}) ?g1 ?L1 ?l1 ?n1 htk0 ?h1a ?h1b
  case g1 => exact s.heap
  case L1 => exact L
  case l1 => exact fun p => [(Str.ofString "bits", .int bits t2), (Str.ofString "head", .str p.1.1 p.1.2)]
  case n1 => exact fun _ => []
  · k_steps
    all_goals (refine Nx.mk ⟨(_, _), ?_⟩ rfl (by assumption) ⟨rfl, rfl, trivial⟩ (by assumption) (fun _ h => nomatch h))
    all_goals (unfold rpHead; (repeat' split) <;> first | rfl | contradiction | (simp_all; done))
  intro q h2 tk2 m2 F2 N2 htk2
  obtain ⟨⟨hv, th⟩, hh⟩ := q
  clear F N
  dsimp only at hh F2 N2
  subst hh
  have hl1 : (rpHead good name bits).length ≤ 1010 := rpHead_len hr
  have hl2 : (fmText bits).length ≤ 100 := fmText_len
  k_steps
  all_goals (show Ret _ _ _ _)
  all_goals (refine Ret.mk (by assumption) rfl ⟨_, tx' ?_⟩)
  all_goals (unfold rpTail; (repeat' split) <;> first | rfl | contradiction)
end Mine
end
section
open PySem PySem.W PyProof.Rows
namespace Mine
noncomputable def paScan (x : Str) : Nat → Nat → Str → Str
  | 0, _, acc => acc
  | k + 1, i, acc => if i < x.length then (if (Txt.item x (i : Int) == Str.ofString "\"") = true then (if (x.length : Int) ≤ (i : Int) + 1 then acc else if (Txt.item x ((i : Int) + 1) != Str.ofString "\"") = true then acc else paScan x k (i + 2) (acc ++ Txt.item x (i : Int)))
      else paScan x k (i + 1) (acc ++ Txt.item x (i : Int))) else acc
section
variable {x acc : Str} {k i : Nat}
theorem pa_brk1 (h : i < x.length) (h1 : (Txt.item x (i : Int) == Str.ofString "\"") = true) (h2 : (x.length : Int) ≤ (i : Int) + 1) : paScan x (k + 1) i acc = acc := by
  unfold paScan; rw [if_pos h, if_pos h1, if_pos h2]
theorem pa_brk2 (h : i < x.length) (h1 : (Txt.item x (i : Int) == Str.ofString "\"") = true) (h2 : ¬ (x.length : Int) ≤ (i : Int) + 1) (h3 : (Txt.item x ((i : Int) + 1) != Str.ofString "\"") = true) : paScan x (k + 1) i acc = acc := by
  unfold paScan; rw [if_pos h, if_pos h1, if_neg h2, if_pos h3]
theorem pa_two (h : i < x.length) (h1 : (Txt.item x (i : Int) == Str.ofString "\"") = true) (h2 : ¬ (x.length : Int) ≤ (i : Int) + 1) (h3 : (Txt.item x ((i : Int) + 1) != Str.ofString "\"") = false) : paScan x (k + 1) i acc = paScan x k (i + 2) (acc ++ Txt.item x (i : Int)) := by
  conv => lhs; unfold paScan
  rw [if_pos h, if_pos h1, if_neg h2, if_neg (by rw [h3]; exact Bool.false_ne_true)]
theorem pa_one (h : i < x.length) (h1 : (Txt.item x (i : Int) == Str.ofString "\"") = false) : paScan x (k + 1) i acc = paScan x k (i + 1) (acc ++ Txt.item x (i : Int)) := by
  conv => lhs; unfold paScan
  rw [if_pos h, if_neg (by rw [h1]; exact Bool.false_ne_true)]
theorem pa_end (h : ¬ i < x.length) : paScan x k i acc = acc := by
  cases k with
  | zero => rfl
  | succ k => unfold paScan; rw [if_neg h]
end
theorem WTurn.brk {g : Heap} {L : Addr} {J : Nat → (Str → Option Value) → List (Addr × Obj) → Prop} {R : Result → Shared → Prop} {s s₃ : Shared} {k : Nat} (h : R (.ok .next) s₃) : WTurn g L J R s k .brk s₃ := h
set_option maxHeartbeats 2000000 in
theorem pa_ct {w : World} {x : Str} {t1 : Tok} (hlen : x.length ≤ 1000) (h257 : Txt.slice x none (some 3) = Str.ofString "257") (hq : Txt.slice x (some 3) (some 5) = Str.ofString " \"") : Ct w 680 63 [.str x t1] (fun _ => True) (fun v _ _ => ∃ t, v = .str (paScan x x.length 5 (Str.ofString "")) t) := by
  intro A s E h1 hd hu G hpre
  refine wp_up h1 hd hu ?_
  clear h1 hd hu A
  have X := G.X
  obtain ⟨p, loose, mg, mb, T⟩ := G.T
  refine wpAny_call ?_
  k_dflt (refine' call_plain_ret (binds := [(PySem.Str.ofString "resp", .str x t1)]) ?k8 ?ho ?hd ?hl ?hcd ?hb ?hloc ?_ ?c1 ?c2 ?c3 ?c4; (case ho => exact X 63 _ (by k_is)); (case hd => exact rfl); (case k8 => exact Nat.le_of_ble_eq_true rfl); (case hl => exact T.nolimit); (case hcd => exact codeRec_of X (by k_is)); (case hb => exact rfl); (case hloc => exact locs rfl); (case c1 => exact rfl); (case c2 => exact rfl); (case c3 => exact rfl); (case c4 => decide); k_whole)
  intro h₁ F
  have N := news0 (h₀ := s.heap) (h := h₁) (L := s.heap.objs.size)
  dsimp only
  generalize s.heap.objs.size = L at F N ⊢
  generalize s.toks + _ = tk0
  (try k_fold)
  refine cut (α := Unit) ?g1 ?L1 ?l1 ?n1 ?h1a ?h1b
  case g1 => exact s.heap
  case L1 => exact L
  case l1 => exact fun _ => [(Str.ofString "resp", .str x t1)]
  case n1 => exact fun _ => []
  · k_steps
    all_goals first
      | exact Nx.mk () rfl (by assumption) ⟨rfl, trivial⟩ (by assumption) (fun _ h => nomatch h)
      | (exfalso; simp_all; done)
  intro _ h2 tk2 m2 F2 N2
  clear F N
  refine cut (α := Unit) ?g2 ?L2 ?l2 ?n2 ?h2a ?h2b
  case g2 => exact s.heap
  case L2 => exact L
  case l2 => exact fun _ => [(Str.ofString "resp", .str x t1)]
  case n2 => exact fun _ => []
  · k_steps
    all_goals first
      | exact Nx.mk () rfl (by assumption) ⟨rfl, trivial⟩ (by assumption) (fun _ h => nomatch h)
      | (exfalso; simp_all; done)
  intro _ h3 tk3 m3 F3 N3
  clear F2 N2
  refine cut (α := Tok) ?g3 ?L3 ?l3 ?n3 ?h3a ?h3b
  case g3 => exact s.heap
  case L3 => exact L
  case l3 => exact fun t => [(Str.ofString "resp", .str x t1), (Str.ofString "dirname", .str (Str.ofString "") t)]
  case n3 => exact fun _ => []
  · k_steps
    exact Nx.mk _ rfl (by assumption) ⟨rfl, rfl, trivial⟩ (by assumption) (fun _ h => nomatch h)
  intro q4 h4 tk4 m4 F4 N4
  clear F3 N3
  refine cut (α := Tok) ?g4 ?L4 ?l4 ?n4 ?h4a ?h4b
  case g4 => exact s.heap
  case L4 => exact L
  case l4 => exact fun t => [(Str.ofString "resp", .str x t1), (Str.ofString "dirname", .str (Str.ofString "") q4), (Str.ofString "i", .int 5 t)]
  case n4 => exact fun _ => []
  · k_steps
    exact Nx.mk _ rfl (by assumption) ⟨rfl, rfl, rfl, trivial⟩ (by assumption) (fun _ h => nomatch h)
  intro q5 h5 tk5 m5 F5 N5
  clear F4 N4
  refine cut (α := Tok) ?g5 ?L5 ?l5 ?n5 ?h5a ?h5b
  case g5 => exact s.heap
  case L5 => exact L
  case l5 => exact fun t => [(Str.ofString "resp", .str x t1), (Str.ofString "dirname", .str (Str.ofString "") q4), (Str.ofString "i", .int 5 q5), (Str.ofString "n", .int x.length t)]
  case n5 => exact fun _ => []
  · k_steps
    exact Nx.mk _ rfl (by assumption) ⟨rfl, rfl, rfl, rfl, trivial⟩ (by assumption) (fun _ h => nomatch h)
  intro q6 h6 tk6 m6 F6 N6
  clear F5 N5
  refine cut (α := Tok) ?g6 ?L6 ?l6 ?n6 ?h6a ?h6b
  case g6 => exact s.heap
  case L6 => exact L
  case l6 => exact fun t => [(Str.ofString "resp", .str x t1), (Str.ofString "dirname", .str (paScan x x.length 5 (Str.ofString "")) t)]
  case n6 => exact fun _ => []
  · refine wpAny_While ?_
    refine whileS (g := s.heap) (L := L) (fun k m news => ∃ (i : Nat) (acc : Str) (ti ta tn : Tok), x.length ≤ i + k ∧ acc.length ≤ i ∧ i ≤ x.length + 5 ∧ news = [] ∧ paScan x k i acc = paScan x x.length 5 (Str.ofString "") ∧ Has m [(Str.ofString "resp", .str x t1), (Str.ofString "dirname", .str acc ta), (Str.ofString "i", .int i ti), (Str.ofString "n", .int x.length tn)]) x.length F6 N6 ⟨5, Str.ofString "", q5, q4, q6, by omega, by decide, by omega, rfl, rfl, ⟨rfl, rfl, rfl, rfl, trivial⟩⟩ ?_
    rintro k m₁ news₁ h7 tk7 ⟨i, acc, ti, ta, tn, hfuel, hacc, hin, rfl, hres, Hm⟩ F7 N7
    rw [← Hm.over] at F7
    clear F6 N6
    k_steps
    by_cases hlt : i < x.length
    · rw [show decide ((i : Int) < (x.length : Int)) = true from decide_eq_true (by omega)]
      refine WTest.true ?_
      have hiN : (i : Int) < (x.length : Int) := by omega
      have hi0 : (0 : Int) ≤ (i : Int) := by omega
      obtain ⟨k, rfl⟩ : ∃ k', k = k' + 1 := ⟨k - 1, by omega⟩
      k_steps
      all_goals first
        | (show WTurn _ _ _ _ _ _ Flow.brk _
           refine WTurn.brk ?_
           show Nx _ _ _ _ _ _ _
           refine Nx.mk ta rfl (by assumption) ⟨rfl, ?_, trivial⟩ (by assumption) (fun _ h => nomatch h)
           refine tx (X := acc) ?_
           rw [← hres]
           first | exact (pa_brk1 hlt (by assumption) (by assumption)).symm | exact (pa_brk2 hlt (by assumption) (by assumption) (by assumption)).symm)
        | (refine WTurn.next k (Nat.lt_succ_self k) rfl (by assumption) (by assumption) ⟨i + 2, acc ++ Txt.item x (i : Int), _, _, tn, by omega, by omega, by omega, rfl, (pa_two hlt (by assumption) (by assumption) (by assumption)).symm.trans hres, ⟨rfl, rfl, rfl, rfl, trivial⟩⟩)
        | (refine WTurn.next k (Nat.lt_succ_self k) rfl (by assumption) (by assumption) ⟨i + 1, acc ++ Txt.item x (i : Int), _, _, tn, by omega, by omega, by omega, rfl, (pa_one hlt (by assumption)).symm.trans hres, ⟨rfl, rfl, rfl, rfl, trivial⟩⟩)
        | (trace_state; fail "pa")
    · rw [show decide ((i : Int) < (x.length : Int)) = false from decide_eq_false (by omega)]
      refine WTest.false ?_
      refine wpAny_execs_nil ?_
      show Nx _ _ _ _ _ _ _
      exact Nx.mk ta rfl F7 ⟨rfl, tx ((pa_end hlt).symm.trans hres), trivial⟩ N7 (fun _ h => nomatch h)
  intro q7 h8 tk8 m8 F8 N8
  clear F6 N6
  k_steps
  show Ret _ _ _ _
  exact Ret.mk F8 rfl ⟨_, rfl⟩
set_option maxHeartbeats 2000000 in
theorem pa_ct0 {w : World} {x : Str} {t1 : Tok} (hlen : x.length ≤ 1000) (h257 : Txt.slice x none (some 3) = Str.ofString "257") (hq : Txt.slice x (some 3) (some 5) ≠ Str.ofString " \"") : Ct w 680 63 [.str x t1] (fun _ => True) (fun v _ _ => ∃ t, v = .str (Str.ofString "") t) := by
  intro A s E h1 hd hu G hpre
  refine wp_up h1 hd hu ?_
  clear h1 hd hu A
  have X := G.X
  obtain ⟨p, loose, mg, mb, T⟩ := G.T
  refine wpAny_call ?_
  k_dflt (refine' call_plain_ret (binds := [(PySem.Str.ofString "resp", .str x t1)]) ?k8 ?ho ?hd ?hl ?hcd ?hb ?hloc ?_ ?c1 ?c2 ?c3 ?c4; (case ho => exact X 63 _ (by k_is)); (case hd => exact rfl); (case k8 => exact Nat.le_of_ble_eq_true rfl); (case hl => exact T.nolimit); (case hcd => exact codeRec_of X (by k_is)); (case hb => exact rfl); (case hloc => exact locs rfl); (case c1 => exact rfl); (case c2 => exact rfl); (case c3 => exact rfl); (case c4 => decide); k_whole)
  intro h₁ F
  have N := news0 (h₀ := s.heap) (h := h₁) (L := s.heap.objs.size)
  dsimp only
  generalize s.heap.objs.size = L at F N ⊢
  generalize s.toks + _ = tk0
  (try k_fold)
  refine cut (α := Unit) ?g7 ?L7 ?l7 ?n7 ?h7a ?h7b
  case g7 => exact s.heap
  case L7 => exact L
  case l7 => exact fun _ => [(Str.ofString "resp", .str x t1)]
  case n7 => exact fun _ => []
  · k_steps
    all_goals first
      | exact Nx.mk () rfl (by assumption) ⟨rfl, trivial⟩ (by assumption) (fun _ h => nomatch h)
      | (exfalso; simp_all; done)
  intro _ h2 tk2 m2 F2 N2
  clear F N
  refine cutQ fun Q1 hn hr => ?_
  k_steps
  · refine hr _ _ ?_
    show Ret _ _ _ _
    exact Ret.mk (by assumption) rfl ⟨_, rfl⟩
  · exfalso
    simp_all
noncomputable def paR (x : Str) : Str := if Txt.slice x (some 3) (some 5) = Str.ofString " \"" then paScan x x.length 5 (Str.ofString "") else Str.ofString ""
theorem paC {w : World} {x : Str} {t1 : Tok} (hlen : x.length ≤ 1000) (h257 : Txt.slice x none (some 3) = Str.ofString "257") : Ct w 680 63 [.str x t1] (fun _ => True) (fun v _ _ => ∃ t, v = .str (paR x) t) := by
  unfold paR
  by_cases hq : Txt.slice x (some 3) (some 5) = Str.ofString " \""
  · rw [if_pos hq]
    exact pa_ct hlen h257 hq
  · rw [if_neg hq]
    exact pa_ct0 hlen h257 hq
theorem paScan_len {x : Str} : ∀ (k i : Nat) (acc : Str), (paScan x k i acc).length ≤ acc.length + k
  | 0, _, acc => Nat.le_refl _
  | k + 1, i, acc => by
    have hi : (acc ++ Txt.item x (i : Int)).length = acc.length + 1 := Str.length_append ..
    have h2 := paScan_len (x := x) k (i + 2) (acc ++ Txt.item x (i : Int))
    have h1 := paScan_len (x := x) k (i + 1) (acc ++ Txt.item x (i : Int))
    unfold paScan
    (repeat' split) <;> omega
theorem paR_len {x : Str} (hlen : x.length ≤ 1000) : (paR x).length ≤ 1000 := by
  unfold paR
  split
  · have := paScan_len (x := x) x.length 5 (Str.ofString "")
    have h0 : (Str.ofString "").length = 0 := rfl
    omega
  · exact Nat.le_of_ble_eq_true rfl
end Mine
end
example : True := by first | walk1 | trivial
section
open PySem PySem.W PyProof.Rows
namespace Mine
local macro_rules | `(tactic| walk_at "z") => `(tactic| first | assumption | rfl | exact Nat.le_of_ble_eq_true rfl | (intro _; intros; try dsimp only))
local macro_rules | `(tactic| walk_at "call ref") => `(tactic| ((apply ctE_use (paC (by assumption) (by assumption)) <;> walk_at "z"); try k_fold))
noncomputable def rdR (x : Str) : Rd := if (paR x != Str.ofString "") = true then .pair (paR x) (Txt.slice x (some (7 + ((paR x).length : Int) + Txt.count (paR x) (Str.ofString "\""))) none) else .word (Str.ofString "nothing")
set_option maxHeartbeats 2000000 in
theorem rd_ct {w : World} {x : Str} {t1 : Tok} (hlen : x.length ≤ 1000) (h257 : Txt.slice x none (some 3) = Str.ofString "257") : Ct w 670 172 [.str x t1] (fun _ => True) (fun v h h' => RdAt h h' v (rdR x)) := by
  intro A s E h1 hd hu G hpre
  refine wp_up h1 hd hu ?_
  clear h1 hd hu A
  have X := G.X
  obtain ⟨p, loose, mg, mb, T⟩ := G.T
  refine wpAny_call ?_
  k_dflt (refine' call_plain_ret (binds := [(PySem.Str.ofString "reply", .str x t1)]) ?k8 ?ho ?hd ?hl ?hcd ?hb ?hloc ?_ ?c1 ?c2 ?c3 ?c4; (case ho => exact X 172 _ (by k_is)); (case hd => exact rfl); (case k8 => exact Nat.le_of_ble_eq_true rfl); (case hl => exact T.nolimit); (case hcd => exact codeRec_of X (by k_is)); (case hb => exact rfl); (case hloc => exact locs rfl); (case c1 => exact rfl); (case c2 => exact rfl); (case c3 => exact rfl); (case c4 => decide); k_whole)
  intro h₁ F
  have N := news0 (h₀ := s.heap) (h := h₁) (L := s.heap.objs.size)
  dsimp only
  generalize s.heap.objs.size = L at F N ⊢
  generalize s.toks + _ = tk0
  (try k_fold)
  have hpl : (paR x).length ≤ 1000 := paR_len hlen
  k_steps
  all_goals (show Ret _ _ _ _)
  all_goals (refine Ret.mk (by assumption) rfl ?_)
  all_goals (try dsimp only)
  all_goals first
    | (rw [show rdR x = _ from if_pos (by assumption)]; exact rd_pair (by assumption))
    | (rw [show rdR x = _ from if_neg (by rw [‹(paR x != Str.ofString "") = false›]; exact Bool.false_ne_true)]; exact ⟨_, rfl⟩)
end Mine
end
example : True := by first | walk1 | trivial
section
open PySem PySem.W PyProof.Rows
namespace Mine
local macro_rules | `(tactic| walk_at "z") => `(tactic| first | assumption | rfl | exact Nat.le_of_ble_eq_true rfl | (intro _; intros; try dsimp only))
local macro_rules | `(tactic| walk_at "call ref") => `(tactic| ((apply ctE_use (sg_ct (by assumption) (by assumption)) <;> walk_at "z"); try k_fold))
noncomputable def duR (good : Bool) (name : Str) (bits : Int) : Rd := if good = false then .word (Str.ofString "refused") else if bits.fmod 7 = 5 then .word (Str.ofString "nothing") else .pair name (if bits.fmod 7 = 4 then Str.ofString "" else sgText bits 3)
set_option maxHeartbeats 2000000 in
theorem du_ct {w : World} {good : Bool} {name : Str} {bits : Int} {t1 t2 : Tok} (hb0 : 0 ≤ bits) (hb1 : bits < 65536) : Ct w 670 186 [.bool good, .str name t1, .int bits t2] (fun _ => True) (fun v h h' => RdAt h h' v (duR good name bits)) := by
  intro A s E h1 hd hu G hpre
  refine wp_up h1 hd hu ?_
  clear h1 hd hu A
  have X := G.X
  obtain ⟨p, loose, mg, mb, T⟩ := G.T
  refine wpAny_call ?_
  k_dflt (refine' call_plain_ret (binds := [(PySem.Str.ofString "good", .bool good), (PySem.Str.ofString "name", .str name t1), (PySem.Str.ofString "bits", .int bits t2)]) ?k8 ?ho ?hd ?hl ?hcd ?hb ?hloc ?_ ?c1 ?c2 ?c3 ?c4; (case ho => exact X 186 _ (by k_is)); (case hd => exact rfl); (case k8 => exact Nat.le_of_ble_eq_true rfl); (case hl => exact T.nolimit); (case hcd => exact codeRec_of X (by k_is)); (case hb => exact rfl); (case hloc => exact locs rfl); (case c1 => exact rfl); (case c2 => exact rfl); (case c3 => exact rfl); (case c4 => decide); k_whole)
  intro h₁ F
  have N := news0 (h₀ := s.heap) (h := h₁) (L := s.heap.objs.size)
  dsimp only
  generalize s.heap.objs.size = L at F N ⊢
  generalize s.toks + _ = tk0
  (try k_fold)
  k_steps
  all_goals (show Ret _ _ _ _)
  all_goals (refine Ret.mk (by assumption) rfl ?_)
  all_goals (try dsimp only)
  all_goals (unfold duR; (repeat' split) <;> first | exact ⟨_, rfl⟩ | exact rd_pair (by assumption) | contradiction | (exfalso; simp_all; done))
end Mine
end
section
open PySem PySem.W PyProof.Rows
namespace Mine
theorem slice_pre {P F : Str} {d e : Nat} (h1 : d ≤ e) (h2 : e ≤ P.cps.size) : Txt.slice (P ++ F) (some (d : Int)) (some (e : Int)) = ⟨P.cps.extract d e⟩ := by
  have h := slice_mid (a := ⟨#[]⟩) (k := P) (b := F) h1 h2
  have e0 : ((⟨#[]⟩ : Str) ++ (P ++ F)) = P ++ F := by show (⟨#[] ++ (P ++ F).cps⟩ : Str) = _; rw [Array.empty_append]
  rw [e0] at h
  have z : ∀ k : Nat, (((⟨#[]⟩ : Str).length : Int) + (k : Int)) = (k : Int) := fun k => by show ((0 : Nat) : Int) + _ = _; omega
  rw [z, z] at h
  exact h
theorem slice_none {x : Str} {j : Int} : Txt.slice x none (some j) = Txt.slice x (some 0) (some j) := by
  show StrLaws.sliceText x none (some j) = StrLaws.sliceText x (some 0) (some j)
  unfold StrLaws.sliceText
  rw [StrLaws.sliceIdx_none_lo]
theorem slice_tail {P F : Str} : Txt.slice (P ++ F) (some (P.length : Int)) none = F := by
  have hl : (P ++ F).length = P.length + F.length := Str.length_append ..
  have h := eq_of_beq (slice_closes_fromL (x := P ++ F) (i := (P.length : Int)) (b := ((P ++ F).length : Int)) (by omega) (by omega) rfl)
  rw [h, hl]
  rw [show ((P.length : Int)).toNat = P.length by omega, show (((P.length + F.length : Nat) : Int) - (P.length : Int)).toNat = F.length by omega]
  show (⟨_⟩ : Str) = ⟨F.cps⟩
  refine congrArg Str.mk ?_
  show ((((P.cps ++ F.cps).toList.drop P.cps.size).take F.cps.size).toArray) = F.cps
  rw [Array.toList_append, show P.cps.size = P.cps.toList.length from Array.length_toList.symm, List.drop_left, show F.cps.size = F.cps.toList.length from Array.length_toList.symm, List.take_length]
theorem item_pre {P F : Str} {i : Nat} (h : i < P.length) : Txt.item (P ++ F) (i : Int) = Txt.item P (i : Int) := by
  have hl : (P ++ F).length = P.length + F.length := Str.length_append ..
  rw [PySem.W.item_meets (x := P ++ F) (by omega), PySem.W.item_meets (x := P) (by omega)]
  rw [show ((i : Int)).toNat = i by omega]
  have hs : i < P.cps.size := h
  show (⟨#[(P.cps ++ F.cps).getD i 0]⟩ : Str) = ⟨#[P.cps.getD i 0]⟩
  rw [Array.getD_eq_getD_getElem?, Array.getD_eq_getD_getElem?, Array.getElem?_append_left hs]
noncomputable def scanOk (P : Str) : Nat → Nat → Str → Option Str
  | 0, _, _ => none
  | k + 1, i, acc => if i + 1 < P.length then (if (Txt.item P (i : Int) == Str.ofString "\"") = true then (if (Txt.item P ((i : Int) + 1) != Str.ofString "\"") = true then some acc else scanOk P k (i + 2) (acc ++ Txt.item P (i : Int))) else scanOk P k (i + 1) (acc ++ Txt.item P (i : Int))) else none
theorem scan_ok {P F r : Str} {m : Nat} : ∀ (k i : Nat) (acc : Str), scanOk P k i acc = some r → paScan (P ++ F) (k + m) i acc = r := by
  intro k
  induction k with
  | zero => intro i acc h; cases h
  | succ k ih =>
    intro i acc h
    unfold scanOk at h
    have hl : (P ++ F).length = P.length + F.length := Str.length_append ..
    split at h
    · rename_i hi
      rw [show k + 1 + m = (k + m) + 1 by omega]
      unfold paScan
      have e1 : Txt.item (P ++ F) ((i : Int) + 1) = Txt.item P ((i : Int) + 1) := item_pre (i := i + 1) hi
      rw [if_pos (by omega), item_pre (by omega), e1]
      split at h
      · rename_i hq
        rw [if_pos hq, if_neg (by omega)]
        split at h
        · rename_i hr
          rw [if_pos hr]
          cases h; rfl
        · rename_i hr
          rw [if_neg hr]
          exact ih _ _ h
      · rename_i hq
        rw [if_neg hq]
        exact ih _ _ h
    · cases h
theorem rd_pre {P F name : Str} (h1 : P.cps.extract 3 5 = (Str.ofString " \"").cps) (h0 : 5 ≤ P.cps.size) (h2 : scanOk P P.length 5 (Str.ofString "") = some name) (h3 : (name != Str.ofString "") = true) (h4 : 7 + (name.length : Int) + Txt.count name (Str.ofString "\"") = P.length) :
    rdR (P ++ F) = .pair name F := by
  have hl : (P ++ F).length = P.length + F.length := Str.length_append ..
  have hp : paR (P ++ F) = name := by
    unfold paR
    rw [if_pos (by rw [show (3 : Int) = ((3 : Nat) : Int) from rfl, show (5 : Int) = ((5 : Nat) : Int) from rfl, slice_pre (by decide) h0, h1]), hl]
    exact scan_ok _ _ _ h2
  unfold rdR
  rw [hp, if_pos h3, h4, slice_tail]
noncomputable def namesL : List Str := [Str.ofString "a\"b", Str.ofString "\"", Str.ofString "a", Str.ofString "ab\"\"", Str.ofString "b a"]
theorem rd_du {n : Nat} (h : n < 65536) {name : Str} (hn : name ∈ namesL) : rdR (rpHead true name (n : Int) ++ rpTail (n : Int)) = duR true name (n : Int) := by
  unfold rpHead rpTail duR
  rw [if_pos (show true = true from rfl), if_neg (show ¬ (true = false) from Bool.noConfusion), show ((n : Int)).fmod 7 = ((n % 7 : Nat) : Int) from fmN n 7]
  have hm : n % 7 < 7 := Nat.mod_lt _ (by decide)
  by_cases h5 : n % 7 = 5
  · have h5i : ((n % 7 : Nat) : Int) = 5 := by omega
    rw [if_pos h5i, if_pos h5i]
    unfold rdR
    have hp : ∀ F, paR ((Str.ofString "257 -\"" ++ Txt.replace name (Str.ofString "\"") (Str.ofString "\"\"")) ++ F) = Str.ofString "" := fun F => by
      unfold paR
      rw [if_neg ?_]
      rw [show (3 : Int) = ((3 : Nat) : Int) from rfl, show (5 : Int) = ((5 : Nat) : Int) from rfl]
      simp only [namesL, List.mem_cons, List.not_mem_nil, or_false] at hn
      rcases hn with rfl | rfl | rfl | rfl | rfl <;> (rw [slice_pre (by decide) (by decide +kernel)]; decide +kernel)
    rw [hp, if_neg (by decide)]
  · have h5i : ¬ ((n % 7 : Nat) : Int) = 5 := by omega
    rw [if_neg h5i, if_neg h5i]
    by_cases h4 : n % 7 = 4
    · have h4i : ((n % 7 : Nat) : Int) = 4 := by omega
      rw [if_pos h4i, if_pos h4i]
      simp only [namesL, List.mem_cons, List.not_mem_nil, or_false] at hn
      have go : ∀ x nm : Str, (paR x == nm && (Txt.slice x (some (7 + (nm.length : Int) + Txt.count nm (Str.ofString "\""))) none == Str.ofString "") && (nm != Str.ofString "")) = true → rdR x = .pair nm (Str.ofString "") := fun x nm hh => by
        rw [Bool.and_eq_true, Bool.and_eq_true] at hh
        unfold rdR
        rw [eq_of_beq hh.1.1, if_pos hh.2, eq_of_beq hh.1.2]
      rcases hn with rfl | rfl | rfl | rfl | rfl <;> exact go _ _ (by decide +kernel)
    · have h4i : ¬ ((n % 7 : Nat) : Int) = 4 := by omega
      rw [if_neg h4i, if_neg h4i, sg_fm h]
      have as : ∀ a b c : Str, a ++ (b ++ c) = (a ++ b) ++ c := fun a b c => (congrArg Str.mk (Array.append_assoc ..)).symm
      rw [as]
      simp only [namesL, List.mem_cons, List.not_mem_nil, or_false] at hn
      rcases hn with rfl | rfl | rfl | rfl | rfl <;> exact rd_pre (by decide +kernel) (by decide +kernel) (by decide +kernel) (by decide +kernel) (by decide +kernel)
theorem rp_257 {good : Bool} {name : Str} {n : Nat} : Txt.slice (rpHead good name (n : Int) ++ rpTail (n : Int)) none (some 3) = (if good = true then Str.ofString "257" else Str.ofString "250") := by
  have as : ∀ a b c : Str, (a ++ b) ++ c = a ++ (b ++ c) := fun a b c => congrArg Str.mk (Array.append_assoc ..)
  unfold rpHead
  rw [slice_none, as, show (3 : Int) = ((3 : Nat) : Int) from rfl, show (0 : Int) = ((0 : Nat) : Int) from rfl]
  cases good <;> (split <;> (try split)) <;> (rw [slice_pre (by decide) (by decide)]; decide)
end Mine
end
section
open PySem PySem.W PyProof.Rows
namespace Mine
theorem occ_none {x y : Str} {n : Nat} (hy : 0 < y.length) : Builtin.Str.occurrences x y n n 1 = [] := by
  rw [StrLaws.occ_eq, show n + 1 - n = 1 by omega]
  show ((forIn [n] (#[], n) (StrLaws.occBody x y n 1)).run.fst.toList : List Nat) = []
  rw [List.forIn_cons]
  have hc : ¬ (n + y.length ≤ n) := by omega
  simp [StrLaws.occBody, hc]
section
variable {prog : Program} {w : World} {A : Around} {E : Value → Shared → Prop} {s : Shared}
set_option maxHeartbeats 1000000 in
theorem find_body {x y : Str} {t u t1 t2 : Tok} {k j : Int} {Q : Fin → Shared → Prop} (h0 : 0 ≤ k) (hk : k ≤ x.length) (hj : j = k) (hy : 0 < y.length) (hQ : Q (.done (.ret (.int (-1) s.toks))) { s with toks := s.toks + 1 }) :
    wpAny (model prog w) A (Builtin.«str.find» ⟨[.str x t, .str y u, .int k t1, .int j t2], []⟩) Q E s := by
  have hidx : typeLookup (.type "int") (Str.ofString "__index__") = pure (some (.builtin "int.__index__")) := by rw [typeLookup_type, builtinLookup_eq_fast]; kernel_rfl
  unfold Builtin.«str.find»
  repeat (first | refine wpAny_of_eq hidx ?_ | wp_step)
  subst hj
  rw [show (max 0 (if j < 0 then j + (x.length : Int) else j)).toNat = j.toNat by rw [if_neg (by omega)]; omega, show (min j.toNat x.length) = j.toNat by omega, occ_none hy]
  repeat wp_step
  exact hQ
theorem call_find {x y : Str} {t u t1 t2 : Tok} {k j : Int} {Q : Value → Shared → Prop} (h0 : 0 ≤ k) (hk : k ≤ x.length) (hj : j = k) (hy : 0 < y.length) (hQ : Q (.int (-1) s.toks) { s with toks := s.toks + 1 }) :
    wpAny (model prog w) A (call (.builtin "str.find") [.str x t, .str y u, .int k t1, .int j t2]) Q E s :=
  wpAny_call_entry PySem.F.slot_str_find (typeIs_str _ _ _) PySem.F.entry_str_find (find_body h0 hk hj hy ⟨_, rfl, hQ⟩) (PySem.F.args_str_find_4 _ _ _ _)
end
end Mine
end
section
open PySem PySem.W PyProof.Rows PySem.Calls
namespace Mine
noncomputable abbrev scG : Scope := { kind := ScopeKind.function, names := [(Str.ofString ".0", NameKind.local), (Str.ofString "s", NameKind.local)], isGenerator := true, isCoroutine := false }
theorem replD {prog : Program} {w : World} {A : Around} {E : Value → Shared → Prop} {s : Shared} {x y z c : Str} {t : Tok} {u : Nat} {Q : Value → Shared → Prop} (hc : Txt.replace x y z = c) (hu : 0 < u) (hyz : (y == z) = false) (hx : x.length ≤ 1000) (hz : z.length ≤ 14) (ht : 0 < s.toks)
    (hq : ∀ t' k, 0 < k → Q (.str c t') { s with toks := k }) : wpAny (model prog w) A (call (.builtin "str.replace") [.str x t, .str y u, .str z (u + 1)]) Q E s := by
  subst hc
  exact wp_tk' ht (SC.replaceW (Nat.ne_of_gt hu) (Nat.succ_ne_zero u) (Nat.ne_of_lt (Nat.lt_succ_self u)) hyz (by omega) hz fun t' k hk => hq t' k hk)
theorem elt_dash {w : World} {Cl : Addr} {code : Value} {bi : Addr} {outer : Env} {A' : Around} {E' : Value → Shared → Prop} {s₂ : Shared} {m₂ : Str → Option Value} {tv : Tok} {prog : Program} (ht : 0 < s₂.toks) (hn : s₂.heap.Ns Cl m₂) (hm : m₂ (Str.ofString "s") = some (.str (Str.ofString "!-") tv)) :
    wpAny (model prog w) A' (eval (.Call (.Attribute (.Call (.Attribute (.Name (Str.ofString "s") ⟨79, 38, 79, 39⟩) (Str.ofString "replace") ⟨79, 38, 79, 47⟩) [.Constant (.str (Str.ofString "\\")) 0 ⟨79, 48, 79, 52⟩, .Constant (.str (Str.ofString "\\\\")) 0 ⟨79, 54, 79, 60⟩] [] ⟨79, 38, 79, 61⟩) (Str.ofString "replace") ⟨79, 38, 79, 69⟩) [.Constant (.str (Str.ofString "-")) 0 ⟨79, 70, 79, 73⟩, .Constant (.str (Str.ofString "\\-")) 0 ⟨79, 75, 79, 80⟩] [] ⟨79, 38, 79, 81⟩)
      (genEnv scG [] Cl code bi outer)) (fun y s₃ => (∃ t, y = Value.str (Str.ofString "!\\-") t) ∧ Keeps s₂ s₃) E' s₂ := by
  have r1 : Txt.replace (Str.ofString "!-") (Str.ofString "\\") (Str.ofString "\\\\") = Str.ofString "!-" := by decide +kernel
  have r2 : Txt.replace (Str.ofString "!-") (Str.ofString "-") (Str.ofString "\\-") = Str.ofString "!\\-" := by decide +kernel
  refine MethodCall_ ?_
  refine MethodCall_ ?_
  refine wpAny_Name (wpAny_loadName_local rfl rfl hn hm ?_) (by decide)
  with_reducible refine GM.replace ?_
  refine callWith_method1 ?_
  refine spliced_more (Constant_str (spliced_more (Constant_str (spliced_none ?_))))
  refine replD r1 ht (by decide) (by decide) (by decide) (Nat.succ_pos _) fun t1 k1 hk1 => ?_
  with_reducible refine GM.replace ?_
  refine callWith_method1 ?_
  refine spliced_more (Constant_str (spliced_more (Constant_str (spliced_none ?_))))
  refine replD r2 hk1 (by decide) (by decide) (by decide) (Nat.succ_pos _) fun t2 k2 hk2 => ?_
  exact ⟨⟨t2, rfl⟩, _, _, rfl, fun _ _ e => e⟩
end Mine
end
section
open PySem PySem.W PyProof.Rows PySem.Calls
namespace Mine
theorem item_cT {prog : Program} {w : World} {A : Around} {E : Value → Shared → Prop} {s : Shared} {value slice : PySem.Expr} {x c : Str} {t u : Tok} {k : Int} {Q : Value → Shared → Prop}
    (hc : Txt.item x k = c) (h0 : 0 ≤ k) (h1 : k < x.length) (hlen : x.length ≤ 1000) (h : ∀ t', Q (.str c t') { s with toks := s.toks + 1 })
    (hs : subscripted slice false (.str x t) (.int k u) = operate [.str x t, .int k u] (getItem (.str x t) (.int k u)) := by with_unfolding_all rfl) :
    wpAny (model prog w) A (subscriptTail value slice (.str x t) (.int k u)) Q E s := by
  subst hc
  exact tail_any (typeIs_str _ _ _) slot_str_getitem.lookup (SB.getItem (fitsSsize_of (N := 9223372036854775808) (by omega) (by omega) (Int.le_refl _)) (charAt_isSome (by omega) h1) (h _)) hs
theorem ite_yes {c : Prop} [Decidable c] {P Q : Prop} (h : c) (hp : P) : if c then P else Q := by rw [if_pos h]; exact hp
theorem ite_no {c : Prop} [Decidable c] {P Q : Prop} (h : ¬ c) (hq : Q) : if c then P else Q := by rw [if_neg h]; exact hq
noncomputable def AppAt (u a : Addr) (h : Heap) : Prop := h.get? u = some (boundApp a)
theorem callWith_appN {prog : Program} {w : World} {A : Around} {E : Value → Shared → Prop} {s : Shared} {a : Addr} {pos : Pos} {u : Addr} {env : Env} {e : PySem.Expr} {Q : Value → Shared → Prop} {h₀ : Heap} {L : Addr} {news : List (Addr × Obj)} (_N : News h₀ L s.heap news) (_hm : (u, boundApp a) ∈ news)
    (h : wpAny (model prog w) A (spliced (backTo pos (starEach [e] env))) (fun vs s₁ => AppAt u a s₁.heap ∧ wpAny (model prog w) A (call (.ref u) vs) Q E s₁) E s)
    (he : starEach [e] env = [(false, eval e env)] := by rfl) : wpAny (model prog w) A (callWith pos (.ref u) [] (backTo pos (starEach [e] env)) []) Q E s := callWith_app h he
theorem appAt_of {u a : Addr} {h₀ h : Heap} {L : Addr} {news : List (Addr × Obj)} (N : News h₀ L h news) (hm : (u, boundApp a) ∈ news) : AppAt u a h := N.get hm
theorem appM {prog : Program} {w : World} {A : Around} {E : Value → Shared → Prop} {s : Shared} {u a : Addr} {v : Value} {Q : Value → Shared → Prop} {h₀ : Heap} {L : Addr} {m : Str → Option Value} {news : List (Addr × Obj)} {vs : List Value} {n : Nat} {ps : Array Value}
    (F : Fr h₀ L s.heap m) (N : News h₀ L s.heap news) (hu : (u, boundApp a) ∈ news) (hm : (a, W.listOf vs.toArray n) ∈ news) (h82 : ((82 : Addr), tabObj ps) ∈ news) (h1 : @LT.lt Nat _ 82 a) (h2 : @LT.lt Nat _ a u) (hsz : vs.length ≤ 100)
    (h : ∀ h', Fr h₀ L h' m → News h₀ L h' [(a, W.listOf (vs ++ [v]).toArray (n + 1)), ((82 : Addr), tabObj ps), (u, boundApp a)] → Q .none { s with heap := h' }) : wpAny (model prog w) A (call (.ref u) [v]) Q E s := by
  have na := N _ hm
  have e : (vs.toArray.push v) = (vs ++ [v]).toArray := by simp
  refine app_call (N.get hu) na.1 (by rw [sizeLine_eq, List.size_toArray]; omega) fun h' hs hl => h h' (F.change hs na.2.1 na.2.2) fun p hp => ?_
  rw [e] at hl
  simp only [List.mem_cons, List.not_mem_nil, or_false] at hp
  rcases hp with rfl | rfl | rfl
  · exact ⟨hl, na.2⟩
  · exact ⟨hs.extBut _ _ (Nat.ne_of_lt h1) (N _ h82).1, (N _ h82).2⟩
  · exact ⟨hs.extBut _ _ (Nat.ne_of_gt h2) (N _ hu).1, (N _ hu).2⟩
theorem truthyR {prog : Program} {w : World} {A : Around} {E : Value → Shared → Prop} {s : Shared} {a : Addr} {h₀ : Heap} {L : Addr} {news : List (Addr × Obj)} {vs : List Value} {n : Nat} {b : Bool} {Q : Bool → Shared → Prop} (N : News h₀ L s.heap news) (hm : (a, W.listOf vs.toArray n) ∈ news) (hsz : vs.length ≤ 100) (hb : (!vs.isEmpty) = b) (h : ∀ tk, Q b { s with toks := tk }) :
    wpAny (model prog w) A (truthy (.ref a)) Q E s := by
  subst hb
  have e : (!vs.toArray.isEmpty) = !vs.isEmpty := by simp
  exact wpAny_truthy_list ⟨_, N.get hm, rfl, _, rfl⟩ (by rw [List.size_toArray]; omega) (by rw [e]; exact h _)
theorem lastR {prog : Program} {w : World} {A : Around} {E : Value → Shared → Prop} {s : Shared} {value slice : PySem.Expr} {a : Addr} {h₀ : Heap} {L : Addr} {news : List (Addr × Obj)} {vs : List Value} {v : Value} {n : Nat} {u : Tok} {Q : Value → Shared → Prop} (N : News h₀ L s.heap news) (hm : (a, W.listOf (vs ++ [v]).toArray n) ∈ news) (h : Q v s)
    (hs : subscripted slice false (.ref a) (.int (-1) u) = operate [.ref a, .int (-1) u] (getItem (.ref a) (.int (-1) u)) := by with_unfolding_all rfl) :
    wpAny (model prog w) A (subscriptTail value slice (.ref a) (.int (-1) u)) Q E s := by
  have hl : s.heap.IsList a (vs ++ [v]).toArray := ⟨_, N.get hm, rfl, _, rfl⟩
  have hz : ((-1 : Int) + ((vs ++ [v]).toArray.size : Int)).toNat = vs.length := by rw [List.size_toArray, List.length_append, List.length_singleton]; omega
  have hz2 : -(((vs ++ [v]).toArray.size : Nat) : Int) ≤ (-1 : Int) := by rw [List.size_toArray, List.length_append, List.length_singleton]; omega
  exact tail_any hl.typeIs slot_list_getitem.lookup (wpAny_getItem_list_neg hl (by decide) hz2 (by decide) (by rw [hz]; simp) h) hs
theorem sliceC {prog : Program} {w : World} {A : Around} {E : Value → Shared → Prop} {s : Shared} {value slice : PySem.Expr} {x c : Str} {t : Tok} {h₀ : Heap} {L : Addr} {m : Str → Option Value} {news : List (Addr × Obj)} {Q : Value → Shared → Prop} {i j : Int} {ui uj : Tok} (hc : Txt.slice x (some i) (some j) = c) (hF : Fr h₀ L s.heap m) (hN : News h₀ L s.heap news) (h : ∀ h' t' k, Fr h₀ L h' m → News h₀ L h' news → 0 < k → Q (.str c t') { s with heap := h', toks := k })
    (hlen : x.length ≤ 1000) (hpos : 0 < s.toks)
    (hs : subscripted slice false (.str x t) (.ref s.heap.objs.size) = operate [.ref s.heap.objs.size, .str x t] (getItem (.str x t) (.ref s.heap.objs.size)) := by with_unfolding_all rfl)
    (ht : ∀ r, letTemporaryGo value (.str x t) r = pure () := by intro _; with_unfolding_all rfl) :
    wpAny (model prog w) A (subscriptTail value slice (.str x t) (.ref s.heap.objs.size)) Q E { s with heap := s.heap.push { cls := .type "slice", data := .fields #[.int i ui, .int j uj, .none] } } := by
  subst hc
  exact wp_tk' hpos (slice_strN_ss hF hN (fun h' t' k F' N' hk => h h' t' k F' N' hk) hs ht (by rw [sizeLine_eq]; omega))
theorem truthyNil {prog : Program} {w : World} {A : Around} {E : Value → Shared → Prop} {s : Shared} {a : Addr} {h₀ : Heap} {L : Addr} {news : List (Addr × Obj)} {n : Nat} {Q : Bool → Shared → Prop} (N : News h₀ L s.heap news) (hm : (a, W.listOf ([] : List Value).toArray n) ∈ news) (h : ∀ tk, Q Bool.false { s with toks := tk }) :
    wpAny (model prog w) A (truthy (.ref a)) Q E s := truthyR N hm (Nat.zero_le _) rfl h
theorem truthyCons {prog : Program} {w : World} {A : Around} {E : Value → Shared → Prop} {s : Shared} {a : Addr} {h₀ : Heap} {L : Addr} {news : List (Addr × Obj)} {vs : List Value} {v : Value} {n : Nat} {Q : Bool → Shared → Prop} (N : News h₀ L s.heap news) (hm : (a, W.listOf (vs ++ [v]).toArray n) ∈ news) (hz : (vs ++ [v]).length ≤ 100) (h : ∀ tk, Q Bool.true { s with toks := tk }) :
    wpAny (model prog w) A (truthy (.ref a)) Q E s := truthyR N hm hz (by simp) h
theorem repat {w : World} {h : Heap} (X : (hd.heap_39 w.params).In h) : RePat h 68 67 := by
  have h1 := X 68 _ (by k_is)
  have h2 := X 67 _ (by k_is)
  exact ⟨⟨_, _, h1, rfl, rfl, rfl, rfl, rfl, rfl, rfl⟩, _, _, _, h2, rfl, rfl, by decide +kernel⟩
theorem lamM {prog : Program} {w : World} {A : Around} {E : Value → Shared → Prop} {s : Shared} {h₀ : Heap} {L : Addr} {m mg : Str → Option Value} {news : List (Addr × Obj)} {R B : Addr} {oR : Obj} {ps : Array Value} {params : Arguments} {body : PySem.Expr} {scope : Scope} {pos : Pos} {env : Env} {clos : List (Str × Addr)} {Q : Value → Shared → Prop}
    (F : Fr h₀ L s.heap m) (N : News h₀ L s.heap news) (hB : (B, boundApp R) ∈ news) (hR : (R, oR) ∈ news) (h82 : ((82 : Addr), tabObj ps) ∈ news) (h1 : @LT.lt Nat _ 82 R) (h2 : @LT.lt Nat _ 82 B) (ht : TriplesOk ps.toList) (hgs : h₀.Ns mainGlobals mg) (b : BMain mg h₀) (C : CodeHd h₀ 86 82)
    (hdef : defaultsOf params env = ([], [])) (hcl : closureFor scope env = pure clos) (hge : env.globals = mainGlobals) (hcode : env.code = .ref 86)
    (h : ∀ f of h' tk ps', Fr h₀ L h' m → News h₀ L h' [(f, of), (R, oR), ((82 : Addr), tabObj ps'), (B, boundApp R)] → TriplesOk ps'.toList → of.cls = .type "function" → Q (.ref f) { s with heap := h', toks := tk }) :
    wpAny (model prog w) A (eval (.Lambda params body scope pos) env) Q E s :=
  lamU (news := [(R, oR), ((82 : Addr), tabObj ps), (B, boundApp R)]) F (fun p hp => by
    simp only [List.mem_cons, List.not_mem_nil, or_false] at hp
    rcases hp with rfl | rfl | rfl
    · exact N _ hR
    · exact N _ h82
    · exact N _ hB) (.tail (Nat.ne_of_gt h1) (.head fun p hp => by rw [List.mem_singleton.mp hp]; exact Nat.ne_of_gt h2)) ht hgs b C hdef hcl hge hcode fun f of h' tk ps' F' N' ht' hc' _ => h f of h' tk ps' F' N' ht' hc'
theorem subN {prog : Program} {w : World} {A : Around} {E : Value → Shared → Prop} {s : Shared} {h₀ : Heap} {L f : Addr} {m : Str → Option Value} {news : List (Addr × Obj)} {of : Obj} {x : Str} {t : Tok} {Q : Value → Shared → Prop} (R : RePat h₀ 68 67) (F : Fr h₀ L s.heap m) (N : News h₀ L s.heap news) (hf : (f, of) ∈ news) (hfc : of.cls = .type "function") (hd : ReDead x) (h0 : 0 < x.length) (hsz : x.length ≤ 1000)
    (hQ : ∀ t' h' tk, Fr h₀ L h' m → News h₀ L h' news → Q (.str x t') { s with heap := h', toks := tk }) : wpAny (model prog w) A (call (.builtin "re.Pattern.sub") [.ref 68, .ref f, .str x t]) Q E s :=
  call_sub (R.keeps F.keep) hd h0 hsz (N.get hf) hfc fun t' h' tk k => hQ t' h' tk (F.keeps k) (N.grown k)
theorem replC {prog : Program} {w : World} {A : Around} {E : Value → Shared → Prop} {s : Shared} {x y z c : Str} {t : Tok} {u : Nat} {Q : Value → Shared → Prop} (hc : Txt.replace x y z = c) (hu : 0 < u) (hyz : (y == z) = false) (hx : x.length ≤ 1000) (hz : z.length ≤ 14) (ht : 0 < s.toks)
    (hq : ∀ t' k, 0 < k → Q (.str c t') { s with toks := k }) : wpAny (model prog w) A (call (.builtin "str.replace") [.str x t, .str y u, .str z (u + 1)]) Q E s := by
  subst hc
  exact wp_tk' ht (SC.replaceW (Nat.ne_of_gt hu) (Nat.succ_ne_zero u) (Nat.ne_of_lt (Nat.lt_succ_self u)) hyz (by omega) hz fun t' k hk => hq t' k hk)
theorem execs_tk {prog : Program} {w : World} {A : Around} {E : Value → Shared → Prop} {s : Shared} {env : Env} {st : Stmt} {rest : List Stmt} {Q : Flow → Shared → Prop} (ht : 0 < s.toks)
    (h : wpAny (model prog w) A (exec st env) (fun f s' => 0 < s'.toks → match f with | .next => wpAny (model prog w) A (execs rest env) Q E s' | f => Q f s') E s) : wpAny (model prog w) A (execs (st :: rest) env) Q E s :=
  wpAny_execs_cons (wp_tk' ht h)
theorem genM {prog : Program} {w : World} {A : Around} {E : Value → Shared → Prop} {s : Shared} {h₀ : Heap} {L : Addr} {m mg : Str → Option Value} {news : List (Addr × Obj)} {R B : Addr} {oR : Obj} {ps : Array Value} {name : Str} {sc : Scope} {a : Addr} {elt : PySem.Expr} {x y : Str} {px py : Pos} {scope : Scope} {pos : Pos} {ch : Addr} {v out : Str} {tv : Tok} {n : Nat} {Q : Value → Shared → Prop}
    (hh : A.handled = none) (hroom : A.depth < recursionLimit) (F : Fr h₀ L s.heap m) (N : News h₀ L s.heap news) (hv : m y = some (.ref ch)) (hch : (ch, W.listOf #[.str v tv] n) ∈ news) (hB : (B, boundApp R) ∈ news) (hR : (R, oR) ∈ news) (h82 : ((82 : Addr), tabObj ps) ∈ news) (h1 : @Ne Nat R 82) (h2 : @Ne Nat B 82) (h3 : @Ne Nat ch 82)
    (ht : TriplesOk ps.toList) (hgs : h₀.Ns mainGlobals mg) (b : BMain mg h₀) (hlim : h₀.NoLimit) (C : CodeHd h₀ 86 82) (hbare : AllBare s.gens)
    (hco : scope.isCoroutine = false) (hclos : closureFor scope (envOf name sc L a (.ref 86)) = pure []) (hcell : ∀ y ∈ scope.names, y.2 ≠ .cell) (h0 : scope.names.lookup (".0" : Str) = some NameKind.local) (hx : scope.names.lookup x = some .local) (hkind : scope.kind = .function) (hsk : sc.kind = .function) (hyl : (envOf name sc L a (.ref 86)).kindOf y = some .local) (hyd : (y == ("__debug__" : Str)) = false)
    (hs : ∀ z, genFold (.Name y py) (envOf name sc L a (.ref 86)) z = pure z)
    (helt : ∀ (Cl : Addr) (code : Value) (bi : Addr) (A' : Around) (E' : Value → Shared → Prop) (s₂ : Shared) m₂, A'.handled = none → 0 < s₂.toks → s₂.heap.Ns Cl m₂ → m₂ x = some (.str v tv) →
      wpAny (model prog w) A' (eval elt (genEnv scope [] Cl code bi (envOf name sc L a (.ref 86)))) (fun y s₃ => (∃ t, y = .str out t) ∧ Keeps s₂ s₃) E' s₂)
    (hout : out.length ≤ 1000)
    (hQ : ∀ I s', (∀ {Q' : Value → Shared → Prop} {E' : Value → Shared → Prop} {sep : Str} {u : Tok}, sep.length ≤ 16 →
        (∀ t' h' tk gs ps', Fr h₀ L h' m → News h₀ L h' [(R, oR), ((82 : Addr), tabObj ps'), (B, boundApp R)] → TriplesOk ps'.toList → AllBare gs → Q' (.str out t') { s with heap := h', toks := tk, gens := gs }) →
        wpAny (model prog w) A (call (.builtin "str.join") [.str sep u, .ref I]) Q' E' s') → Q (.ref I) s') :
    wpAny (model prog w) A (eval (.GeneratorExp elt [⟨.Name x px, .Name y py, [], 0⟩] scope pos) (envOf name sc L a (.ref 86))) Q E s :=
  genU (news := [(ch, W.listOf #[.str v tv] n), (R, oR), ((82 : Addr), tabObj ps), (B, boundApp R)]) (cl := []) (ch := ch) (v := v) (tv := tv) (n := n) (out := out) hh hroom F (fun p hp => by
    simp only [List.mem_cons, List.not_mem_nil, or_false] at hp
    rcases hp with rfl | rfl | rfl | rfl
    · exact N _ hch
    · exact N _ hR
    · exact N _ h82
    · exact N _ hB) (.tail h3 (.tail h1 (.head fun p hp => by rw [List.mem_singleton.mp hp]; exact h2))) ht hgs b hlim C rfl rfl hco hclos hcell h0 hx hkind hs (fun h => ld F hv h hsk hyl hyd) (.head _) h3 helt
    fun I s' hj => hQ I s' fun {Q' E' sep u} hsep hq => hj hsep hout fun t' h' tk gs ps' F' N' ht' hb' => hq t' h' tk gs ps' F' (fun p hp => N' p (.tail _ hp)) ht' (hb' hbare)
section
variable {α : Type}
noncomputable def NxG (g : Heap) (L : Addr) (l : α → List (Str × Value)) (news : α → List (Addr × Obj)) (s : Shared) (f : Flow) (s' : Shared) : Prop :=
  f = .next ∧ ∃ a h tk gs m, s' = { s with heap := h, toks := tk, gens := gs } ∧ Fr g L h (over (l a) m) ∧ News g L h (news a) ∧ AllBare gs
theorem cutG {prog : Program} {w : World} {A : Around} {E : Value → Shared → Prop} {s : Shared} {env : Env} {st : Stmt} {rest : List Stmt} {Q : Flow → Shared → Prop} (g : Heap) (L : Addr) (l : α → List (Str × Value)) (news : α → List (Addr × Obj))
    (h1 : wpAny (model prog w) A (exec st env) (NxG g L l news s) NoE s)
    (h2 : ∀ a h tk gs m, Fr g L h (over (l a) m) → News g L h (news a) → AllBare gs → wpAny (model prog w) A (execs rest env) Q E { s with heap := h, toks := tk, gens := gs }) : wpAny (model prog w) A (execs (st :: rest) env) Q E s := by
  refine wpAny_execs_cons (wpAny_mono h1 (fun f s' x => ?_) fun _ _ x => x.elim)
  obtain ⟨rfl, a, h, tk, gs, m, rfl, F, N, b⟩ := x
  exact h2 a h tk gs m F N b
end
end Mine
end
section
open PySem PySem.W PyProof.Rows
namespace Mine
noncomputable def soP (p : Str) : Str := if (Txt.item p 0 == Str.ofString "[") = true then Txt.slice (Txt.replace p (Str.ofString "\\") (Str.ofString "")) (some (if (Txt.item p 1 == Str.ofString "^") = true then 2 else 1)) (some (-1)) else if (p == Str.ofString ".") = true then Str.ofString "" else Txt.item p (-1)
noncomputable def baP (p : Str) : Bool := if (Txt.item p 0 == Str.ofString "[") = true then Txt.item p 1 == Str.ofString "^" else p == Str.ofString "."
noncomputable def tkTurn (x : Str) (p : Option Str) (ps : List Nat) : List Nat := match p with
  | none => (match ps with | [] => [] | a :: _ => (List.range (x.length + 1 - a)).map (a + ·))
  | some p => stepN x (soP p) (baP p) ps
noncomputable def tkPlaces (x : Str) (qs : List (Option Str)) : List Nat := qs.foldl (fun ps q => tkTurn x q ps) [0]
theorem tk_star {x : Str} {ps : List Nat} : tkTurn x none (tkTurn x none ps) = tkTurn x none ps := by
  cases ps with
  | nil => rfl
  | cons a r =>
    show tkTurn x none ((List.range (x.length + 1 - a)).map (a + ·)) = (List.range (x.length + 1 - a)).map (a + ·)
    cases hn : x.length + 1 - a with
    | zero => rfl
    | succ n =>
      rw [List.range_succ_eq_map, List.map_cons]
      show (List.range (x.length + 1 - (a + 0))).map ((a + 0) + ·) = _
      rw [Nat.add_zero, hn, List.range_succ_eq_map, List.map_cons]
      rfl
theorem me_star {x : Str} {ps : List Nat} : meTurn x (mkItem ⟨#[42]⟩) ps = tkTurn x none ps := by
  cases ps with
  | nil => rfl
  | cons a r => rfl
theorem me_part {x k : Str} {ps : List Nat} (h : k ∈ kindL) (hk : k ≠ ⟨#[42]⟩) : meTurn x (mkItem k) ps = tkTurn x (some (partK k)) ps := by
  have key := (by decide +kernel : ∀ k ∈ kindL, k ≠ ⟨#[42]⟩ → ((k == Str.ofString "*") = false) ∧ soP (partK k) = (if (k == Str.ofString "?") = true then Str.ofString "" else Txt.stripChars k (Str.ofString "[!]")) ∧ baP (partK k) = itBar k) k h hk
  obtain ⟨h1, h2, h3⟩ := key
  cases ps with
  | nil => rfl
  | cons a r =>
    show (if (k == Str.ofString "*") = true then _ else stepN x (if (k == Str.ofString "?") = true then Str.ofString "" else Txt.stripChars k (Str.ofString "[!]")) (itBar k) (a :: r)) = stepN x (soP (partK k)) (baP (partK k)) (a :: r)
    rw [if_neg (by rw [h1]; exact Bool.false_ne_true), h2, h3]
theorem tk_snoc {x : Str} {qs : List (Option Str)} {q : Option Str} : tkPlaces x (qs ++ [q]) = tkTurn x q (tkPlaces x qs) := by
  unfold tkPlaces
  rw [List.foldl_append]
  rfl
theorem tk_add {x k : Str} {qs : List (Option Str)} (h : k ∈ kindL) : tkPlaces x (addPart qs k) = meTurn x (mkItem k) (tkPlaces x qs) := by
  unfold addPart
  by_cases hk : k = ⟨#[42]⟩
  · rw [if_pos hk, hk, me_star]
    by_cases hl : qs.getLast? = some none
    · rw [if_pos hl]
      obtain ⟨qs', rfl⟩ := List.getLast?_eq_some_iff.mp hl
      rw [tk_snoc, tk_star]
    · rw [if_neg hl, tk_snoc]
  · rw [if_neg hk, tk_snoc, me_part h hk]
theorem tk_me {x : Str} {ks : List Str} (hks : ∀ k ∈ ks, k ∈ kindL) : tkPlaces x (partsOf ks) = mePlaces x (ks.map mkItem) := by
  have key : ∀ (ks : List Str) (qs : List (Option Str)), (∀ k ∈ ks, k ∈ kindL) → tkPlaces x (ks.foldl addPart qs) = (ks.map mkItem).foldl (fun ps i => meTurn x i ps) (tkPlaces x qs) := by
    intro ks
    induction ks with
    | nil => intro qs _; rfl
    | cons k r ih =>
      intro qs hk
      show tkPlaces x (r.foldl addPart (addPart qs k)) = (r.map mkItem).foldl _ (meTurn x (mkItem k) (tkPlaces x qs))
      rw [ih _ fun k' h' => hk k' (.tail _ h'), tk_add (hk k (.head _))]
  exact key ks [] hks
end Mine
end
section
open PySem PySem.W PyProof.Rows
namespace Mine
inductive P2 {α β : Type} (R : α → β → Prop) : List α → List β → Prop
  | nil : P2 R [] []
  | cons {a b l r} : R a b → P2 R l r → P2 R (a :: l) (b :: r)
theorem P2.mono {α β : Type} {R R' : α → β → Prop} (k : ∀ a b, R a b → R' a b) {l : List α} {r : List β} (h : P2 R l r) : P2 R' l r := by
  induction h with
  | nil => exact .nil
  | cons x _ ih => exact .cons (k _ _ x) ih
theorem P2.snoc {α β : Type} {R : α → β → Prop} {l : List α} {r : List β} {a : α} {b : β} (h : P2 R l r) (x : R a b) : P2 R (l ++ [a]) (r ++ [b]) := by
  induction h with
  | nil => exact .cons x .nil
  | cons y _ ih => exact .cons y ih
theorem P2.len {α β : Type} {R : α → β → Prop} {l : List α} {r : List β} (h : P2 R l r) : l.length = r.length := by
  induction h with
  | nil => rfl
  | cons _ _ ih => simp [ih]
theorem P2.at {α β : Type} {R : α → β → Prop} {l : List α} {r : List β} (h : P2 R l r) : ∀ (i : Nat) (a : α), l[i]? = some a → ∃ b, r[i]? = some b ∧ R a b := by
  induction h with
  | nil => intro i a e; cases e
  | cons x _ ih =>
    intro i a e
    cases i with
    | zero => cases e; exact ⟨_, rfl, x⟩
    | succ i => exact ih i a e
theorem take_snoc {α : Type} {l : List α} {i : Nat} {a : α} (h : l[i]? = some a) : l.take (i + 1) = l.take i ++ [a] := by rw [List.take_add_one, h]; rfl
/-- the end of a statement, its tokens told -/
noncomputable def NxT {α : Type} (g : Heap) (L : Addr) (l : α → List (Str × Value)) (news : α → List (Addr × Obj)) (s : Shared) (f : Flow) (s' : Shared) : Prop :=
  f = .next ∧ ∃ a h tk gs m, s' = { s with heap := h, toks := tk, gens := gs } ∧ Fr g L h (over (l a) m) ∧ News g L h (news a) ∧ 0 < tk ∧ AllBare gs
theorem NxT.mk {α : Type} {g : Heap} {L : Addr} {l : α → List (Str × Value)} {news : α → List (Addr × Obj)} {s s' : Shared} {h : Heap} {tk : Nat} {gs : Array GenState} {m : Str → Option Value} {news' : List (Addr × Obj)} (a : α) (e : s' = { s with heap := h, toks := tk, gens := gs })
    (F : Fr g L h m) (H : Has m (l a)) (N : News g L h news') (hn : ∀ p ∈ news a, p ∈ news') (ht : 0 < tk) (hb : AllBare gs) : NxT g L l news s .next s' := ⟨rfl, a, h, tk, gs, m, e, Fr.over F H, fun p hp => N p (hn p hp), ht, hb⟩
theorem cutT {α : Type} {prog : Program} {w : World} {A : Around} {E : Value → Shared → Prop} {s : Shared} {env : Env} {st : Stmt} {rest : List Stmt} {Q : Flow → Shared → Prop} (g : Heap) (L : Addr) (l : α → List (Str × Value)) (news : α → List (Addr × Obj))
    (h1 : wpAny (model prog w) A (exec st env) (NxT g L l news s) NoE s)
    (h2 : ∀ a h tk gs m, Fr g L h (over (l a) m) → News g L h (news a) → 0 < tk → AllBare gs → wpAny (model prog w) A (execs rest env) Q E { s with heap := h, toks := tk, gens := gs }) : wpAny (model prog w) A (execs (st :: rest) env) Q E s := by
  refine wpAny_execs_cons (wpAny_mono h1 (fun f s' x => ?_) fun _ _ x => x.elim)
  obtain ⟨rfl, a, h, tk, gs, m, rfl, F, N, ht, hb⟩ := x
  exact h2 a h tk gs m F N ht hb
theorem to_end {α : Type} {M : Model} {A : Around} {t : Sem α} {P Q : α → Shared → Prop} {E : Value → Shared → Prop} {s : Shared} (h1 : wpAny M A t P NoE s) (h2 : ∀ f s', P f s' → Q f s') : wpAny M A t Q E s :=
  wpAny_mono h1 h2 fun _ _ x => x.elim
noncomputable def NotCell (o : Obj) : Prop := ∀ v, o.data ≠ .cell v
/-- a store into a cell: the kept part of the ledger holds no cell, or another -/
theorem stCMd {M : Model} {A : Around} {E : Value → Shared → Prop} {s : Shared} {h₀ : Heap} {L a : Addr} {cd : Value} {name : Str} {scope : Scope} {m : Str → Option Value} {x : Str} {c : Addr} {o : Obj} {v₀ : Option Value} {v : Value} {news : List (Addr × Obj)} (keep : List (Addr × Obj)) {Q : Unit → Shared → Prop} (F : Fr h₀ L s.heap m) (N : News h₀ L s.heap news)
    (hc : (cellsFrom (L + 1) scope.names []).lookup x = some c) (hm : (c, o) ∈ news) (hd : o.data = .cell v₀) (hkp : ∀ p ∈ keep, p ∈ news ∧ (@Ne Nat p.1 c ∨ NotCell p.2))
    (h : ∀ h' o', Fr h₀ L h' m → News h₀ L h' ((c, o') :: keep) → o'.data = .cell (some v) → Q () { s with heap := h' })
    (hk : scope.kind = .function := by rfl) (hl : (envOfC name scope L a cd).kindOf x = some .cell := by rfl) :
    wpAny M A (storeName (envOfC name scope L a cd) x v) Q E s :=
  stCM keep F N hc hm hd (fun p hp => ⟨(hkp p hp).1, by
    rcases (hkp p hp).2 with h1 | h1
    · exact h1
    · intro e
      have h2 := (N p (hkp p hp).1).1
      have h3 := (N _ hm).1
      rw [show p.1 = c from e] at h2
      rw [h2] at h3
      cases h3
      exact h1 _ hd⟩) h hk hl
theorem notCell_list {xs : Array Value} {n : Nat} : NotCell (W.listOf xs n) := fun _ e => by cases e
theorem notCell_tab {ps : Array Value} : NotCell (tabObj ps) := fun _ e => by cases e
theorem kn {c : Addr} {news : List (Addr × Obj)} : ∀ p ∈ ([] : List (Addr × Obj)), p ∈ news ∧ (@Ne Nat p.1 c ∨ NotCell p.2) := fun _ h => nomatch h
theorem kc {c a : Addr} {o : Obj} {l news : List (Addr × Obj)} (h : @Ne Nat a c ∨ NotCell o) (r : ∀ p ∈ l, p ∈ news ∧ (@Ne Nat p.1 c ∨ NotCell p.2)) (hm : (a, o) ∈ news := by k_mem) : ∀ p ∈ (a, o) :: l, p ∈ news ∧ (@Ne Nat p.1 c ∨ NotCell p.2) := fun p hp => by
  rcases List.mem_cons.mp hp with rfl | hp
  · exact ⟨hm, h⟩
  · exact r p hp
theorem kl {c : Addr} {pre l news : List (Addr × Obj)} (h : ∀ p ∈ pre, NotCell p.2) (hm : ∀ p ∈ pre, p ∈ news) (r : ∀ p ∈ l, p ∈ news ∧ (@Ne Nat p.1 c ∨ NotCell p.2)) : ∀ p ∈ pre ++ l, p ∈ news ∧ (@Ne Nat p.1 c ∨ NotCell p.2) := fun p hp => by
  rcases List.mem_append.mp hp with hp | hp
  · exact ⟨hm p hp, .inr (h p hp)⟩
  · exact r p hp
noncomputable def LstO (o : Obj) (its : Array Value) : Prop := o.cls = .type "list" ∧ ∃ n, o.data = .seq its n
theorem LstO.of {xs : Array Value} {n : Nat} : LstO (W.listOf xs n) xs := ⟨rfl, n, rfl⟩
theorem LstO.notCell {o : Obj} {its : Array Value} (h : LstO o its) : NotCell o := fun v e => by
  obtain ⟨_, n, h⟩ := h
  rw [h] at e; cases e
theorem LstO.isList {g h : Heap} {L a : Addr} {o : Obj} {its : Array Value} {news : List (Addr × Obj)} (l : LstO o its) (N : News g L h news) (hm : (a, o) ∈ news) : h.IsList a its := ⟨o, (N _ hm).1, l.1, l.2⟩
/-- a ledger of lists -/
noncomputable def Lsts (pre : List (Addr × Obj)) : Prop := ∀ p ∈ pre, ∃ its, LstO p.2 its
theorem Lsts.notCell {pre : List (Addr × Obj)} (h : Lsts pre) : ∀ p ∈ pre, NotCell p.2 := fun p hp => let ⟨_, l⟩ := h p hp; l.notCell
theorem Lsts.nil : Lsts [] := fun _ h => nomatch h
theorem Lsts.cons {a : Addr} {o : Obj} {its : Array Value} {pre : List (Addr × Obj)} (h : Lsts pre) (l : LstO o its) : Lsts ((a, o) :: pre) := fun p hp => by
  rcases List.mem_cons.mp hp with rfl | hp
  · exact ⟨_, l⟩
  · exact h p hp
/-- a list is not the table -/
theorem ne82 {g h : Heap} {L : Addr} {news : List (Addr × Obj)} {ps : Array Value} {p : Addr × Obj} (N : News g L h news) (h82 : ((82 : Addr), tabObj ps) ∈ news) (hp : p ∈ news) (hd : ∀ xs, p.2 ≠ tabObj xs) : @Ne Nat p.1 82 := fun e => by
  have h1 := (N p hp).1
  rw [show p.1 = 82 from e, (N _ h82).1] at h1
  exact hd _ (Option.some.inj h1).symm
theorem LstO.ne82 {o : Obj} {its : Array Value} (l : LstO o its) : ∀ xs, o ≠ tabObj xs := fun xs e => by
  have h := l.1
  rw [e] at h; cases h
theorem cell_ne82 {o : Obj} {v : Option Value} (h : o.data = .cell v) : ∀ xs, o ≠ tabObj xs := fun xs e => by rw [e] at h; cases h
/-- the items, in a ledger -/
noncomputable def ItIn (pre : List (Addr × Obj)) (v : Value) (i : Item) : Prop := ∃ a t1 t2 o, v = .ref a ∧ (a, o) ∈ pre ∧ LstO o #[.str i.kind t1, .str i.some t2, .bool i.barred] ∧ i.kind.length ≤ 1000 ∧ i.some.length ≤ 1000
theorem ItIn.sub {pre pre' : List (Addr × Obj)} (hs : ∀ p ∈ pre, p ∈ pre') {v : Value} {i : Item} (h : ItIn pre v i) : ItIn pre' v i := by
  obtain ⟨a, t1, t2, o, e, hm, r⟩ := h
  exact ⟨a, t1, t2, o, e, hs _ hm, r⟩
theorem items_ledger {g h h' : Heap} {L : Addr} {m : Str → Option Value} (F : Fr g L h m) : ∀ {zs : List Value} {is : List Item} {news : List (Addr × Obj)}, Items h' zs is → (∀ a, Value.ref a ∈ zs → h.get? a = none) → News g L h' news →
    ∃ pre, News g L h' (pre ++ news) ∧ P2 (ItIn pre) zs is ∧ Lsts pre := by
  intro zs is news hi
  induction hi with
  | nil => intro _ N; exact ⟨[], N, .nil, Lsts.nil⟩
  | @cons a t1 t2 i vs is h1 h2 h3 _ ih =>
    intro hf N
    obtain ⟨pre, N', P, S⟩ := ih (fun b hb => hf b (.tail _ hb)) N
    obtain ⟨o, ho, hc, hd⟩ := h1
    refine ⟨(a, o) :: pre, news_new F N' (hf a (.head _)) ho, .cons ⟨a, t1, t2, o, rfl, .head _, ⟨hc, hd⟩, h2, h3⟩ (P.mono fun v i h => h.sub fun p hp => .tail _ hp), S.cons ⟨hc, hd⟩⟩
theorem items_of {g hh : Heap} {L : Addr} {news pre : List (Addr × Obj)} (N : News g L hh news) (hs : ∀ p ∈ pre, p ∈ news) {zs : List Value} {is : List Item} (h : P2 (ItIn pre) zs is) : Items hh zs is := by
  induction h with
  | nil => exact .nil
  | cons x _ ih =>
    obtain ⟨a, t1, t2, o, rfl, hm, l, h2, h3⟩ := x
    exact .cons (l.isList N (hs _ hm)) h2 h3 ih
noncomputable def starI : Str := Str.ofString "*"
theorem mk_star : mkItem starI = ⟨starI, starI, false⟩ := by
  have h1 : Txt.stripChars starI (Str.ofString "[!]") = starI := by decide +kernel
  have h2 : itBar starI = false := by decide +kernel
  show (⟨starI, Txt.stripChars starI (Str.ofString "[!]"), itBar starI⟩ : Item) = _
  rw [h1, h2]
theorem star_in {pre : List (Addr × Obj)} {a : Addr} {t1 t2 : Tok} {n : Nat} : ItIn ((a, W.listOf #[.str (Str.ofString "*") t1, .str (Str.ofString "*") t2, .bool false] n) :: pre) (.ref a) (mkItem starI) := by
  rw [mk_star]
  exact ⟨a, t1, t2, _, rfl, .head _, LstO.of, Nat.le_of_ble_eq_true rfl, Nat.le_of_ble_eq_true rfl⟩
theorem P2.star {pre : List (Addr × Obj)} {zs : List Value} {ks : List Str} {a : Addr} {t1 t2 : Tok} {n : Nat} (h : P2 (ItIn pre) zs (ks.map mkItem)) :
    P2 (ItIn ((a, W.listOf #[.str (Str.ofString "*") t1, .str (Str.ofString "*") t2, .bool false] n) :: pre)) (zs ++ [.ref a]) ((ks ++ [starI]).map mkItem) := by
  rw [List.map_append]
  exact (h.mono fun _ _ x => x.sub fun p hp => .tail _ hp).snoc star_in
theorem P2.starHead {pre : List (Addr × Obj)} {zs : List Value} {ks : List Str} {a : Addr} {t1 t2 : Tok} {n : Nat} (h : P2 (ItIn pre) zs (ks.map mkItem)) :
    P2 (ItIn ((a, W.listOf #[.str (Str.ofString "*") t1, .str (Str.ofString "*") t2, .bool false] n) :: pre)) (.ref a :: zs) ((starI :: ks).map mkItem) :=
  .cons star_in (h.mono fun _ _ x => x.sub fun p hp => .tail _ hp)
/-- a file -/
structure Fl where
  good : Bool
  name : Str
  bits : Int
noncomputable def Fl.ok (f : Fl) : Prop := f.name ∈ namesL ∧ 0 ≤ f.bits ∧ f.bits < 65536
noncomputable def FlIn (pre : List (Addr × Obj)) (v : Value) (f : Fl) : Prop := ∃ a t1 t2 o, v = .ref a ∧ (a, o) ∈ pre ∧ LstO o #[.bool f.good, .str f.name t1, .int f.bits t2] ∧ f.ok
theorem FlIn.sub {pre pre' : List (Addr × Obj)} (hs : ∀ p ∈ pre, p ∈ pre') {v : Value} {i : Fl} (h : FlIn pre v i) : FlIn pre' v i := by
  obtain ⟨a, t1, t2, o, e, hm, r⟩ := h
  exact ⟨a, t1, t2, o, e, hs _ hm, r⟩
noncomputable def Fl.due (f : Fl) : Rd := duR f.good f.name f.bits
/-- what is read or due, in a ledger -/
noncomputable def RdIn (pre : List (Addr × Obj)) (v : Value) : Rd → Prop
  | .word x => (x = Str.ofString "refused" ∨ x = Str.ofString "nothing") ∧ ∃ t, v = .str x t
  | .pair a b => a.length ≤ 1000 ∧ b.length ≤ 1000 ∧ ∃ p t1 t2 o, v = .ref p ∧ (p, o) ∈ pre ∧ LstO o #[.str a t1, .str b t2]
theorem RdIn.sub {pre pre' : List (Addr × Obj)} (hs : ∀ p ∈ pre, p ∈ pre') {v : Value} {r : Rd} (h : RdIn pre v r) : RdIn pre' v r := by
  cases r with
  | word x => exact h
  | pair a b =>
    obtain ⟨h1, h2, p, t1, t2, o, e, hm, l⟩ := h
    exact ⟨h1, h2, p, t1, t2, o, e, hs _ hm, l⟩
theorem namesL_len {x : Str} (h : x ∈ namesL) : x.length ≤ 10 := by
  simp only [namesL, List.mem_cons, List.not_mem_nil, or_false] at h
  rcases h with rfl | rfl | rfl | rfl | rfl <;> exact Nat.le_of_ble_eq_true rfl
theorem namesL_rep {x : Str} (h : x ∈ namesL) : (Txt.replace x (Str.ofString "\"") (Str.ofString "\"\"")).length ≤ 1000 := by
  simp only [namesL, List.mem_cons, List.not_mem_nil, or_false] at h
  rcases h with rfl | rfl | rfl | rfl | rfl <;> decide +kernel
theorem Fl.nat {f : Fl} (h : f.ok) : ∃ n : Nat, f.bits = (n : Int) ∧ n < 65536 := ⟨f.bits.toNat, by have := h.2; omega, by have := h.2; omega⟩
noncomputable def RdSz : Rd → Prop
  | .word x => x = Str.ofString "refused" ∨ x = Str.ofString "nothing"
  | .pair a b => a.length ≤ 1000 ∧ b.length ≤ 1000
theorem due_sizes {f : Fl} (h : f.ok) : RdSz f.due := by
  obtain ⟨n, hn, hl⟩ := Fl.nat h
  unfold Fl.due duR
  by_cases h1 : f.good = false
  · rw [if_pos h1]; exact .inl rfl
  · rw [if_neg h1]
    by_cases h2 : f.bits.fmod 7 = 5
    · rw [if_pos h2]; exact .inr rfl
    · rw [if_neg h2]
      refine ⟨by have := namesL_len h.1; omega, ?_⟩
      split
      · exact Nat.le_of_ble_eq_true rfl
      · rw [hn, sg_fm hl]
        have := fmText_len (md := (n : Int))
        omega
/-- a new value of what is due goes to the ledger -/
theorem rd_ledger {g h h' : Heap} {L : Addr} {m : Str → Option Value} {news : List (Addr × Obj)} {v : Value} {f : Fl} (ok : f.ok) (F : Fr g L h m) (N₀ : News g L h news) (N : News g L h' news) (r : RdAt h h' v f.due) :
    ∃ pre, News g L h' (pre ++ news) ∧ RdIn pre v f.due ∧ Lsts pre ∧ ∀ p ∈ pre, ∀ q ∈ news, p.1 ≠ q.1 := by
  have sz := due_sizes ok
  revert r sz
  cases f.due with
  | word x => intro r sz; exact ⟨[], N, ⟨sz, r⟩, Lsts.nil, fun _ h => nomatch h⟩
  | pair a b =>
    intro r sz
    obtain ⟨p, t1, t2, rfl, hn, o, ho, hc, hd⟩ := r
    refine ⟨[(p, o)], news_new F N hn ho, ⟨sz.1, sz.2, p, t1, t2, o, rfl, .head _, hc, hd⟩, Lsts.nil.cons ⟨hc, hd⟩, fun q hq r hr e => ?_⟩
    rw [List.mem_singleton.mp hq] at e
    have := (N₀ r hr).1
    rw [← show p = r.1 from e, hn] at this
    cases this
theorem mfa {α : Type} {P : α → Prop} {x : α} {l : List α} (h : P x) (r : ∀ p ∈ l, P p) : ∀ p ∈ x :: l, P p := fun p hp => by
  cases hp with
  | head => exact h
  | tail _ hp => exact r p hp
theorem mfp {α : Type} {P : α → Prop} {a b : List α} (h : ∀ p ∈ a, P p) (r : ∀ p ∈ b, P p) : ∀ p ∈ a ++ b, P p := fun p hp => (List.mem_append.mp hp).elim (h p) (r p)
theorem mfe {α : Type} {P : α → Prop} : ∀ p ∈ ([] : List α), P p := fun _ h => nomatch h
theorem News.sub {g h : Heap} {L : Addr} {a b : List (Addr × Obj)} (N : News g L h a) (hs : ∀ p ∈ b, p ∈ a) : News g L h b := fun p hp => N p (hs p hp)
theorem sjoin_cat : ∀ ks : List Str, Str.join (Str.ofString "") ks = cat ks
  | [] => rfl
  | [x] => by
    show x = (⟨x.cps ++ #[]⟩ : Str)
    rw [Array.append_empty]
  | x :: y :: r => by
    show (⟨(x.cps ++ #[]) ++ (Str.join (Str.ofString "") (y :: r)).cps⟩ : Str) = ⟨x.cps ++ (cat (y :: r)).cps⟩
    rw [sjoin_cat (y :: r), Array.append_empty]
theorem join_cat (ks : List Str) : Txt.join (Str.ofString "") ks = cat ks := (eq_of_beq (join_plain_closes (Str.ofString "") ks)).trans (sjoin_cat ks)
theorem kindL_len : ∀ k ∈ kindL, k.length ≤ 4 := by decide +kernel
theorem cat_small {ks : List Str} (hk : ∀ k ∈ ks, k ∈ kindL) (hn : ks.length ≤ 5) : (cat ks).length ≤ 20 := by
  rw [cat_len]
  have h2 := StrLaws.sumLen_le ks (fun k h => kindL_len k (hk k h))
  omega
theorem joinC {prog : Program} {w : World} {A : Around} {E : Value → Shared → Prop} {s : Shared} {D : Addr} {vs : List Value} {ks : List Str} {t : Tok} {Q : Value → Shared → Prop} (hl : s.heap.IsList D vs.toArray) (hs : Ss vs ks) (hk : ∀ k ∈ ks, k ∈ kindL) (hn : ks.length ≤ 5) (ht : 0 < s.toks)
    (h : ∀ t' k, 0 < k → Q (.str (cat ks) t') { s with toks := k }) : wpAny (model prog w) A (call (.builtin "str.join") [.str (Str.ofString "") t, .ref D]) Q E s := by
  obtain ⟨l, rfl, hl2⟩ := hs.pairs
  have ok : JoinOk (Str.ofString "") ks = true := by
    unfold JoinOk
    rw [StrLaws.joinFits (B := 4) (fun k h => kindL_len k (hk k h)) (by have : (Str.ofString "").length = 0 := rfl; rw [this]; omega)]
    rfl
  exact wp_tk' ht (SC.join (l := l) (texts := ks) hl hl2 ok fun t' k hk' => by rw [join_cat]; exact h t' k hk')
theorem ledC {g h : Heap} {L C : Addr} {oC : Obj} {base own : List (Addr × Obj)} (N : News g L h (base ++ ((C, oC) :: own))) : News g L h ((C, oC) :: (base ++ own)) :=
  News.sub N (mfa (List.mem_append_right _ (.head _)) (mfp (fun _ hp => List.mem_append_left _ hp) (fun _ hp => List.mem_append_right _ (.tail _ hp))))
theorem backC {g h : Heap} {L C : Addr} {oC : Obj} {base own : List (Addr × Obj)} (N : News g L h ((C, oC) :: (base ++ own))) : News g L h (base ++ ((C, oC) :: own)) :=
  News.sub N (mfp (fun _ hp => .tail _ (List.mem_append_left _ hp)) (mfa (.head _) (fun _ hp => .tail _ (List.mem_append_right _ hp))))
/-- a comprehension's turn: its tests -/
theorem turn0 {prog : Program} {w : World} {A : Around} {cenv : Env} {elt : PySem.Expr} {J1 : Value → Shared → Prop} {J0 : Shared → Prop} {s : Shared} (h : wpAny (model prog w) A (eval elt cenv) J1 NoE s) : TurnG prog w A cenv [] elt J1 J0 s := by
  show wpAny (model prog w) A (pure true) _ NoE s
  exact wpAny_pure h
noncomputable def TestP (prog : Program) (w : World) (A : Around) (cenv : Env) (elt : PySem.Expr) (J1 : Value → Shared → Prop) (J0 : Shared → Prop) (ok : Bool) (s₃ : Shared) : Prop :=
  if ok = true then wpAny (model prog w) A (eval elt cenv) J1 NoE s₃ else J0 s₃
theorem turn1 {prog : Program} {w : World} {A : Around} {cenv : Env} {c elt : PySem.Expr} {J1 : Value → Shared → Prop} {J0 : Shared → Prop} {s : Shared} (h : wpAny (model prog w) A (isTrue c cenv (eval c cenv)) (TestP prog w A cenv elt J1 J0) NoE s) : TurnG prog w A cenv [c] elt J1 J0 s := by
  unfold TurnG
  simp only [List.forIn_cons, List.forIn_nil, if_true]
  refine wpAny_bind (wpAny_bind (wpAny_mono h (fun ok s₃ h₃ => ?_) fun _ _ x => x))
  exact wpAny_pure (wpAny_pure h₃)
theorem wp_id {α : Type} {M : Model} {A : Around} {t : Sem α} {Q : α → Shared → Prop} {E : Value → Shared → Prop} {s : Shared} (h : wpAny M A t Q E s) : wpAny M A t Q E s := h
noncomputable def LcStop {M : Model} (A : Around) (e : PySem.Expr) (env : Env) (Q : Value → Shared → Prop) (E : Value → Shared → Prop) (s : Shared) : Prop := wpAny M A (eval e env) Q E s
theorem lc_stop {M : Model} {A : Around} {a : PySem.Expr} {b : List Comprehension} {c d} {env : Env} {Q : Value → Shared → Prop} {E : Value → Shared → Prop} {s : Shared} (h : LcStop (M := M) A (.ListComp a b c d) env Q E s) : wpAny M A (eval (.ListComp a b c d) env) Q E s := h
end Mine
end
section
open PySem PySem.W PyProof.Rows
namespace Mine
noncomputable def lawBS : List Stmt × Scope := match pw.main.body.reverse with
  | .FunctionDef _ _ body _ _ _ scope _ _ _ :: _ => (body, scope)
  | _ => ([], default)
noncomputable def lawScope : Scope := lawBS.2
noncomputable def nth : List Stmt → Nat → Stmt
  | [], _ => .Pass default
  | x :: _, 0 => x
  | _ :: r, k + 1 => nth r k
noncomputable def lawSt (k : Nat) : Stmt := nth lawBS.1 k
noncomputable abbrev lawE (L fa : Addr) (cd : Value) : Env := envOfC (Str.ofString "law") lawScope L fa cd
noncomputable abbrev lawA (L fa : Addr) (cd : Value) : Around := callerA.deeper (lawE L fa cd)
/-- the law's end -/
noncomputable def LawEnd (g : Heap) (L : Addr) (s : Shared) (f : Flow) (s' : Shared) : Prop :=
  f = .ret (.bool true) ∧ ∃ h tk gs m ps, s' = { s with heap := h, toks := tk, gens := gs } ∧ Fr g L h m ∧ News g L h [((82 : Addr), tabObj ps)] ∧ AllBare gs
end Mine
namespace Mine
structure LawG (w : World) (g : Heap) : Prop where
  X : (hd.heap_39 w.params).In g
  T : ∃ p loose mean mg mb, Top p loose mean mg mb g
  B : Below callerA g [] g
theorem LawG.good {w : World} {g : Heap} (G : LawG w g) : GoodT w g := ⟨G.X, let ⟨p, loose, _, mg, mb, T⟩ := G.T; ⟨p, loose, mg, mb, topRead_of T, T.bmain⟩⟩
end Mine
end
section
open PySem PySem.W PyProof.Rows PySem.Calls
namespace Mine
structure LA0 where
  a : Addr
  vs : List Value
  n : Nat
  W : Int
  t : Tok
  ns : List Int
  hv : IntsAre vs ns
  hn : ns.length ≤ 11
noncomputable def extra : List Int := [663760, 337544, 8411, 726672, 665156, 80, 104]
set_option maxHeartbeats 4000000 in
theorem law_s0 {w : World} {g : Heap} {L fa : Addr} {cd : Value} {s : Shared} {al : Addr} {vs : List Value} {zs : List Int} {m : Str → Option Value} {o1 o2 o3 o4 o5 : Obj} (G : LawG w g) (hb : AllBare s.gens)
    (F : Fr g L s.heap (over [(Str.ofString "script", .ref al)] m)) (N : News g L s.heap [(L + 1 + 1 + 1 + 1 + 1, o5), (L + 1 + 1 + 1 + 1, o4), (L + 1 + 1 + 1, o3), (L + 1 + 1, o2), (L + 1, o1), ((82 : Addr), tabObj #[])]) (hl : g.IsList al vs.toArray) (hI : IntsAre vs zs) (hlen : zs.length ≤ 63) :
    wpAny (model pw w) (lawA L fa cd) (exec (lawSt 0) (lawE L fa cd)) (NxT (α := LA0) g L (fun a => [(Str.ofString "numbers", .ref a.a), (Str.ofString "whole", .int a.W a.t)]) (fun a => (a.a, W.listOf a.vs.toArray a.n) :: [(L + 1 + 1 + 1 + 1 + 1, o5), (L + 1 + 1 + 1 + 1, o4), (L + 1 + 1 + 1, o3), (L + 1 + 1, o2), (L + 1, o1), ((82 : Addr), tabObj #[])]) s) NoE s := by
  unfold lawA lawE
  conv in (occs := *) lawScope => all_goals whnf
  conv in lawSt _ => whnf
  refine wp_id ?_
  (try k_fold)
  have X := G.X
  obtain ⟨p, loose, mean, mg, mb, T⟩ := G.T
  k_steps
  (try dsimp only)
  rename Fr _ _ _ _ => F'
  rename News _ _ _ _ => N'
  refine NxT.mk (F := F') (N := N') ⟨_, _, 0, _, _, List.take 4 zs ++ extra, by assumption, ?h1⟩ rfl ⟨rfl, rfl, trivial⟩ ?h2 (Nat.succ_pos _) hb
  case h1 => rw [List.length_append, List.length_take]; have : extra.length = 7 := rfl; omega
  case h2 =>
    intro p hp
    rcases List.mem_cons.mp hp with rfl | hp
    · simp
    · exact .tail _ (.tail _ (.tail _ (.tail _ (.tail _ hp))))
end Mine
end
section
open PySem PySem.W PyProof.Rows PySem.Calls
namespace Mine
structure LA1 where
  a : Addr
  vs : List Value
  n : Nat
  o : Obj
  hv : Ss vs namesL
  ho : o.data = .cell (some (.ref a))
set_option maxHeartbeats 4000000 in
theorem law_s1 {w : World} {g : Heap} {L fa : Addr} {cd : Value} {s : Shared} {an : Addr} {vs : List Value} {n : Nat} {wh : Int} {t : Tok} {m : Str → Option Value} {o1 o2 o3 o4 o5 : Obj} {c1 : Option Value} (G : LawG w g) (hb : AllBare s.gens) (ht : 0 < s.toks)
    (F : Fr g L s.heap (over [(Str.ofString "numbers", .ref an), (Str.ofString "whole", .int wh t)] m)) (N : News g L s.heap ((an, W.listOf vs.toArray n) :: [(L + 1 + 1 + 1 + 1 + 1, o5), (L + 1 + 1 + 1 + 1, o4), (L + 1 + 1 + 1, o3), (L + 1 + 1, o2), (L + 1, o1), ((82 : Addr), tabObj #[])])) (h1 : o1.data = .cell c1) :
    wpAny (model pw w) (lawA L fa cd) (exec (lawSt 1) (lawE L fa cd)) (NxT (α := LA1) g L (fun _ => [(Str.ofString "numbers", .ref an), (Str.ofString "whole", .int wh t)]) (fun a => (L + 1, a.o) :: (a.a, W.listOf a.vs.toArray a.n) :: (an, W.listOf vs.toArray n) :: [(L + 1 + 1 + 1 + 1 + 1, o5), (L + 1 + 1 + 1 + 1, o4), (L + 1 + 1 + 1, o3), (L + 1 + 1, o2), ((82 : Addr), tabObj #[])]) s) NoE s := by
  unfold lawA lawE
  conv in (occs := *) lawScope => all_goals whnf
  conv in lawSt _ => whnf
  refine wp_id ?_
  (try k_fold)
  have X := G.X
  obtain ⟨p, loose, mean, mg, mb, T⟩ := G.T
  k_steps
  (try dsimp only)
  rename Fr _ _ _ _ => F'
  rename News _ _ _ _ => N'
  rename_i l' h' hl'
  refine stCMd ((l', W.listOf _ _) :: (an, W.listOf vs.toArray n) :: [(L + 1 + 1 + 1 + 1 + 1, o5), (L + 1 + 1 + 1 + 1, o4), (L + 1 + 1 + 1, o3), (L + 1 + 1, o2), ((82 : Addr), tabObj #[])]) F' N' rfl (by k_mem) h1 (kc (.inr notCell_list) (kc (.inr notCell_list) (kc (.inl (neN (by omega))) (kc (.inl (neN (by omega))) (kc (.inl (neN (by omega))) (kc (.inl (neN (by omega))) (kc (.inr notCell_tab) kn)))))) (.head _)) fun h2 o' F2 N2 d2 => ?_
  dsimp only
  exact NxT.mk (F := F2) (N := N2) ⟨_, _, _, _, .cons (.cons (.cons (.cons (.cons .nil)))), d2⟩ rfl ⟨rfl, rfl, trivial⟩ (fun p hp => hp) (Nat.succ_pos _) hb
end Mine
end
example : True := by first | walk1 | trivial
section
open PySem PySem.W PyProof.Rows PySem.Calls
namespace Mine
theorem nm_item {prog : Program} {w : World} {A : Around} {E : Value → Shared → Prop} {s : Shared} {value slice : PySem.Expr} {l : Addr} {ys : List Value} {k0 : Int} {u : Tok} {Q : Value → Shared → Prop}
    (hl : s.heap.IsList l ys.toArray) (hy : Ss ys namesL) (h : ∀ x t, x ∈ namesL → Q (.str x t) s)
    (hs : subscripted slice false (.ref l) (.int (k0.fmod 5) u) = operate [.ref l, .int k u] (getItem (.ref l) (.int (k0.fmod 5) u)) := by with_unfolding_all rfl) :
    wpAny (model prog w) A (subscriptTail value slice (.ref l) (.int (k0.fmod 5) u)) Q E s := by
  have h0 : 0 ≤ k0.fmod 5 := Int.fmod_nonneg_of_pos _ (by decide)
  have h9 : k0.fmod 5 < 5 := Int.fmod_lt_of_pos _ (by decide)
  generalize k0.fmod 5 = k at h0 h9 hs ⊢
  have hlen : ys.length = 5 := hy.length
  obtain ⟨v, hv⟩ : ∃ v, ys[k.toNat]? = some v := ⟨ys[k.toNat]'(by omega), List.getElem?_eq_getElem _⟩
  obtain ⟨x, t, rfl, hx⟩ := hy.at _ _ hv
  exact tail_any hl.typeIs slot_list_getitem.lookup (wpAny_getItem_list hl h0 (Int.lt_trans h9 (by decide)) (by simpa using hv) (h x t (List.mem_of_getElem? hx))) hs
local macro_rules | `(tactic| walk_at "subscriptTail") => `(tactic| (k_here; refine nm_item (by is_list) (by assumption) ?_; intro _ _ _))
theorem pow2_16 {prog : Program} {w : World} {A : Around} {E : Value → Shared → Prop} {s : Shared} {t u : Tok} {Q : Value → Shared → Prop} (h : Q (.int 65536 s.toks) { s with toks := s.toks + 1 }) : wpAny (model prog w) A (binaryOp .Pow (.int 2 t) (.int 16 u)) Q E s := by
  have e : (2 : Int) ^ (16 : Int).toNat = 65536 := by decide
  exact pow_int_small (by decide) (by decide) (by decide) (by rw [e]; exact h)
local macro_rules | `(tactic| walk_at "binaryOp Pow int int") => `(tactic| (with_reducible refine pow2_16 ?_))
noncomputable def FlJ (base : List (Addr × Obj)) (i : Nat) (ys : List Value) (news : List (Addr × Obj)) : Prop :=
  ∃ pre fls, news = base ++ pre ∧ ys.length = i ∧ Lsts pre ∧ P2 (FlIn pre) ys fls
theorem fl_turn {g h' : Heap} {L : Addr} {m : Str → Option Value} {s : Shared} {tk : Nat} {gs : Array GenState} {base own pre : List (Addr × Obj)} {fls : List Fl} {ys : List Value} {i : Nat} {I C D l' : Addr} {oC : Obj} {good : Bool} {nm : Str} {bits : Int} {tm tb : Tok} {nn : Nat}
    (F' : Fr g L h' m) (N' : News g L h' ((l', W.listOf #[.bool good, .str nm tm, .int bits tb] nn) :: (base ++ (C, oC) :: (pre ++ own)))) (hI : @LT.lt Nat _ I l') (hC : @LT.lt Nat _ C l') (hD : @LT.lt Nat _ D l') (hnm : nm ∈ namesL) (h0 : 0 ≤ bits) (h1 : bits < 65536)
    (hoff : ∀ p ∈ base ++ pre, ¬ p.1 ∈ [I, C, D]) (hlen : ys.length = i) (hpre : Lsts pre) (hP : P2 (FlIn pre) ys fls) (hb : AllBare gs) :
    EndG g L m [I, C, D] ((C, oC) :: own) (FlJ base (i + 1) (ys ++ [Value.ref l'])) s { s with heap := h', toks := tk, gens := gs } := by
  refine ⟨h', tk, gs, base ++ ((l', W.listOf #[.bool good, .str nm tm, .int bits tb] nn) :: pre), rfl, F', News.sub N' (mfp (mfp (fun _ hp => .tail _ (List.mem_append_left _ hp)) (mfa (.head _) (fun _ hp => .tail _ (List.mem_append_right _ (.tail _ (List.mem_append_left _ hp)))))) (mfa (.tail _ (List.mem_append_right _ (.head _))) (fun _ hp => .tail _ (List.mem_append_right _ (.tail _ (List.mem_append_right _ hp)))))), mfp (fun p hp => hoff p (List.mem_append_left _ hp)) (mfa ?_ (fun p hp => hoff p (List.mem_append_right _ hp))), ⟨_, fls ++ [⟨good, nm, bits⟩], rfl, by simp [hlen], hpre.cons LstO.of, (hP.mono fun _ _ x => x.sub fun p hp => .tail _ hp).snoc ⟨l', tm, tb, _, rfl, .head _, LstO.of, hnm, h0, h1⟩⟩, hb⟩
  intro hm
  rcases List.mem_cons.mp hm with e | hm
  · exact Nat.lt_irrefl _ (show @LT.lt Nat _ l' l' from (show l' = I from e) ▸ hI)
  rcases List.mem_cons.mp hm with e | hm
  · exact Nat.lt_irrefl _ (show @LT.lt Nat _ l' l' from (show l' = C from e) ▸ hC)
  · exact Nat.lt_irrefl _ (show @LT.lt Nat _ l' l' from (show l' = D from List.mem_singleton.mp hm) ▸ hD)
structure LA2 where
  a : Addr
  vs : List Value
  n : Nat
  pre : List (Addr × Obj)
  fls : List Fl
  hv : P2 (FlIn pre) vs fls
  hp : Lsts pre
  hn : fls.length ≤ 11
set_option maxHeartbeats 4000000 in
theorem law_s2 {w : World} {g : Heap} {L fa : Addr} {cd : Value} {s : Shared} {an aM : Addr} {vs vsM : List Value} {n nM : Nat} {ns : List Int} {wh : Int} {t : Tok} {m : Str → Option Value} {o1 o2 o3 o4 o5 : Obj} (G : LawG w g) (hb : AllBare s.gens) (ht : 0 < s.toks)
    (F : Fr g L s.heap (over [(Str.ofString "numbers", .ref an), (Str.ofString "whole", .int wh t)] m)) (N : News g L s.heap ((L + 1, o1) :: (aM, W.listOf vsM.toArray nM) :: (an, W.listOf vs.toArray n) :: [(L + 1 + 1 + 1 + 1 + 1, o5), (L + 1 + 1 + 1 + 1, o4), (L + 1 + 1 + 1, o3), (L + 1 + 1, o2), ((82 : Addr), tabObj #[])])) (h1 : o1.data = .cell (some (.ref aM)))
    (hM : Ss vsM namesL) (hv : IntsAre vs ns) (hn : ns.length ≤ 11) :
    wpAny (model pw w) (lawA L fa cd) (exec (lawSt 2) (lawE L fa cd)) (NxT (α := LA2) g L (fun a => [(Str.ofString "whole", .int wh t), (Str.ofString "files", .ref a.a)]) (fun a => (a.a, W.listOf a.vs.toArray a.n) :: [(L + 1 + 1 + 1 + 1 + 1, o5), (L + 1 + 1 + 1 + 1, o4), (L + 1 + 1 + 1, o3), (L + 1 + 1, o2), ((82 : Addr), tabObj #[])] ++ a.pre) s) NoE s := by
  unfold lawA lawE
  conv in (occs := *) lawScope => all_goals whnf
  conv in lawSt _ => whnf
  refine wp_id ?_
  (try k_fold)
  have X := G.X
  obtain ⟨p, loose, mean, mg, mb, T⟩ := G.T
  refine asgCompG g L (over [(Str.ofString "numbers", .ref an), (Str.ofString "whole", .int wh t)] m) (fun _ _ => True) (fun v m₃ => m₃ (Str.ofString "x") = some v) (FlJ ((L + 1, o1) :: (aM, W.listOf vsM.toArray nM) :: (an, W.listOf vs.toArray n) :: [(L + 1 + 1 + 1 + 1 + 1, o5), (L + 1 + 1 + 1 + 1, o4), (L + 1 + 1 + 1, o3), (L + 1 + 1, o2), ((82 : Addr), tabObj #[])]))
    rfl rfl (by with_unfolding_all rfl) rfl rfl rfl (by decide) rfl (by decide) (fun _ => rfl) (fun C => bind_name rfl rfl) ?_
  k_steps
  refine ⟨an, vs.toArray, _, rfl, F, N, ⟨_, (N _ (.tail _ (.tail _ (.head _)))).1, rfl, _, rfl⟩, (N _ (.tail _ (.tail _ (.head _)))).2.1, ?hsz, hb, ht, ⟨[], [], by simp, rfl, Lsts.nil, .nil⟩, ?hJl, fun _ _ _ _ _ _ _ _ _ => trivial, ?turn, ?fin⟩
  case hsz => rw [sizeLine_eq, List.size_toArray, hv.length]; omega
  case hJl => rintro i ys _ ⟨pre, fls, _, e, _⟩; omega
  case turn =>
    rintro I C D i v ys _ h tk gs oC m₂ own hlt hi ⟨pre, fls, rfl, hlen, hpre, hP⟩ hoff hC hm F2 N2 hb2 ht2 hown hI hD
    refine turn0 ?_
    (try k_fold)
    obtain ⟨z, tz, rfl, hz⟩ := hv.at i v (by simpa using hi)
    replace N2 := News.sub N2 (b := [(L + 1, o1), (aM, W.listOf vsM.toArray nM), (an, W.listOf vs.toArray n), (L + 1 + 1 + 1 + 1 + 1, o5), (L + 1 + 1 + 1 + 1, o4), (L + 1 + 1 + 1, o3), (L + 1 + 1, o2), ((82 : Addr), tabObj #[]), (C, oC)] ++ (pre ++ own)) ((mfa (.head _) (mfa (.tail _ (.head _)) (mfa (.tail _ (.tail _ (.head _))) (mfa (.tail _ (.tail _ (.tail _ (.head _)))) (mfa (.tail _ (.tail _ (.tail _ (.tail _ (.head _))))) (mfa (.tail _ (.tail _ (.tail _ (.tail _ (.tail _ (.head _)))))) (mfa (.tail _ (.tail _ (.tail _ (.tail _ (.tail _ (.tail _ (.head _))))))) (mfa (.tail _ (.tail _ (.tail _ (.tail _ (.tail _ (.tail _ (.tail _ (.head _)))))))) (mfa (List.mem_append_right _ (.head _)) (mfp mfe (mfp (fun _ hp => List.mem_append_left _ (List.mem_append_right _ hp)) (fun _ hp => List.mem_append_right _ (.tail _ hp))))))))))))))
    simp only [List.cons_append, List.nil_append] at N2
    clear F N
    k_steps
    (try dsimp only)
    rename_i nm tm hnm l' h' F' N' hl'
    have ho := hl'.2.2.2.2.2.2.2.2.2
    obtain ⟨oI, hI⟩ := hI
    obtain ⟨oD, hD⟩ := hD
    exact fl_turn (base := [(L + 1, o1), (aM, W.listOf vsM.toArray nM), (an, W.listOf vs.toArray n), (L + 1 + 1 + 1 + 1 + 1, o5), (L + 1 + 1 + 1 + 1, o4), (L + 1 + 1 + 1, o3), (L + 1 + 1, o2), ((82 : Addr), tabObj #[])]) F' N' (allLt_mem ho _ (List.mem_append_right _ hI)) hl'.2.2.2.2.2.2.2.2.1 (allLt_mem ho _ (List.mem_append_right _ hD)) hnm (Int.fmod_nonneg_of_pos _ (by decide)) (Int.fmod_lt_of_pos _ (by decide)) hoff hlen hpre hP hb2
  case fin =>
    rintro D h tk gs ys _ ⟨pre, fls, rfl, hlen, hpre, hP⟩ hD F2 N2 hb2 ht2
    refine NxT.mk (F := F2) (N := N2) ⟨D, ys, ys.length, pre, fls, hP, hpre, ?hl⟩ rfl ⟨rfl, rfl, trivial⟩ ?hm ht2 hb2
    case hl => rw [← hP.len, hlen, List.size_toArray, hv.length]; exact hn
    case hm => exact mfa (.head _) (mfa (.tail _ (.tail _ (.tail _ (.tail _ (.head _))))) (mfa (.tail _ (.tail _ (.tail _ (.tail _ (.tail _ (.head _)))))) (mfa (.tail _ (.tail _ (.tail _ (.tail _ (.tail _ (.tail _ (.head _))))))) (mfa (.tail _ (.tail _ (.tail _ (.tail _ (.tail _ (.tail _ (.tail _ (.head _)))))))) (mfa (.tail _ (.tail _ (.tail _ (.tail _ (.tail _ (.tail _ (.tail _ (.tail _ (.head _))))))))) (fun _ hp => .tail _ (.tail _ (.tail _ (.tail _ (.tail _ (.tail _ (.tail _ (.tail _ (.tail _ (hp)))))))))))))))
end Mine
end
example : True := by first | walk1 | trivial
section
open PySem PySem.W PyProof.Rows PySem.Calls
namespace Mine
theorem picks_sub {x : Int} {ks : List Str} (h9 : ks.length = 9) : (∀ k ∈ itPicks x ks, k ∈ ks) ∧ (itPicks x ks).length ≤ 3 := by
  have hm0 : 0 ≤ x.fmod 3 := Int.fmod_nonneg_of_pos _ (by decide)
  have hm3 : x.fmod 3 < 3 := Int.fmod_lt_of_pos _ (by decide)
  refine ⟨fun k hk => ?_, by rw [itPicks, List.length_map, List.length_range]; omega⟩
  obtain ⟨i, hi, rfl⟩ := List.mem_map.mp hk
  have h0 : 0 ≤ ((x.fdiv 3).fdiv (9 ^ i)).fmod 9 := Int.fmod_nonneg_of_pos _ (by decide)
  have h1 : ((x.fdiv 3).fdiv (9 ^ i)).fmod 9 < 9 := Int.fmod_lt_of_pos _ (by decide)
  have hlt : ixOf x i < ks.length := by unfold ixOf; omega
  rw [List.getD_eq_getElem?_getD, List.getElem?_eq_getElem hlt]
  exact List.getElem_mem _
theorem ss9 {a b c d e f g h i : Str} {ta tb tc td te tf tg th ti : Tok} : Ss [.str a ta, .str b tb, .str c tc, .str d td, .str e te, .str f tf, .str g tg, .str h th, .str i ti] [a, b, c, d, e, f, g, h, i] := .cons (.cons (.cons (.cons (.cons (.cons (.cons (.cons (.cons .nil))))))))
theorem itN {w : World} {x : Int} {t1 : Tok} {kl : Addr} {vs : List Value} {ks : List Str} (hks : Ss vs ks) (h9 : ks.length = 9) (hkl : ∀ k ∈ ks, k.length ≤ 100)
    {A : Around} {g : Heap} {L : Addr} {s : Shared} {m : Str → Option Value} {news : List (Addr × Obj)} {Q : Value → Shared → Prop} {E : Value → Shared → Prop}
    (h1 : A.handled = none) (h2 : A.depth ≤ 660) (h3 : A.units ≤ 660) (F : Fr g L s.heap m) (N : News g L s.heap news) (G : Good w g) (hl : s.heap.IsList kl vs.toArray)
    (h : ∀ D zs n h' tk' pre, Fr g L h' m → News g L h' ((D, W.listOf (List.toArray zs) n) :: (news ++ pre)) → P2 (ItIn pre) zs ((itPicks x ks).map mkItem) → Lsts pre → zs.length ≤ 3 → Q (.ref D) { s with heap := h', toks := tk' }) :
    wpAny (model pw w) A (call (.ref 139) [.int x t1, .ref kl]) Q E s :=
  ct_use (it_ct hks h9 hkl) h1 h2 h3 F N G hl fun v h' tk' hp hk F' N' => by
    obtain ⟨D, n, zs, rfl, hDn, hDg, hI, hf⟩ := hp
    obtain ⟨pre, N2, hP, hS⟩ := items_ledger F hI hf N'
    refine h D zs n h' tk' pre F' (News.sub (news_new F N2 hDn hDg) (mfa (.head _) (mfp (fun _ hp => .tail _ (List.mem_append_right _ hp)) (fun _ hp => .tail _ (List.mem_append_left _ hp))))) hP hS ?_
    rw [hP.len, List.length_map]; exact (picks_sub h9).2
noncomputable def kinds1 : List Str := [Str.ofString "a", Str.ofString "*", Str.ofString "?", Str.ofString "b", Str.ofString "\"", Str.ofString "[\"]", Str.ofString " ", Str.ofString "[!a]", Str.ofString "[!\"]"]
theorem kinds1_len : ∀ k ∈ kinds1, k.length ≤ 100 := by decide +kernel
theorem kinds1_in : ∀ k ∈ kinds1, k ∈ kindL := by decide +kernel
local macro_rules | `(tactic| walk_at "z") => `(tactic| first | assumption | rfl | exact Nat.le_of_ble_eq_true rfl | is_list)
local macro_rules | `(tactic| walk_at "call ref") => `(tactic| (refine itN (ks := kinds1) ss9 rfl kinds1_len (by walk_at "z") (by walk_at "z") (by walk_at "z") (by walk_at "z") (by walk_at "z") (by walk_at "z") (by walk_at "z") ?_; intro _ _ _ _ _ _ _ NI _ _ _; (try dsimp only); (try simp only [List.cons_append, List.nil_append] at NI); (try k_fold)))
structure LA3 where
  a : Addr
  vs : List Value
  n : Nat
  pre : List (Addr × Obj)
  ks : List Str
  o : Obj
  hv : P2 (ItIn pre) vs (ks.map mkItem)
  hp : Lsts pre
  hn : ks.length ≤ 5
  hk : ∀ k ∈ ks, k ∈ kindL
  ho : o.data = .cell (some (.ref a))
set_option maxHeartbeats 4000000 in
theorem law_s3 {w : World} {g : Heap} {L fa : Addr} {cd : Value} {s : Shared} {aF : Addr} {rest : List (Addr × Obj)} {wh : Int} {t : Tok} {m : Str → Option Value} {o2 o3 o4 o5 : Obj} {c2 : Option Value} (G : LawG w g) (hb : AllBare s.gens) (ht : 0 < s.toks)
    (F : Fr g L s.heap (over [(Str.ofString "whole", .int wh t), (Str.ofString "files", .ref aF)] m)) (N : News g L s.heap ((L + 1 + 1 + 1 + 1 + 1, o5) :: (L + 1 + 1 + 1 + 1, o4) :: (L + 1 + 1 + 1, o3) :: (L + 1 + 1, o2) :: ((82 : Addr), tabObj #[]) :: rest)) (h2 : o2.data = .cell c2) (hr : ∀ p ∈ rest, NotCell p.2) :
    wpAny (model pw w) (lawA L fa cd) (exec (lawSt 3) (lawE L fa cd)) (NxT (α := LA3) g L (fun _ => [(Str.ofString "whole", .int wh t), (Str.ofString "files", .ref aF)]) (fun a => (L + 1 + 1, a.o) :: (a.a, W.listOf a.vs.toArray a.n) :: (L + 1 + 1 + 1 + 1 + 1, o5) :: (L + 1 + 1 + 1 + 1, o4) :: (L + 1 + 1 + 1, o3) :: ((82 : Addr), tabObj #[]) :: (rest ++ a.pre)) s) NoE s := by
  unfold lawA lawE
  conv in (occs := *) lawScope => all_goals whnf
  conv in lawSt _ => whnf
  refine wp_id ?_
  (try k_fold)
  have X := G.X
  obtain ⟨p, loose, mean, mg, mb, T⟩ := G.T
  have GB := G.good.good
  k_steps
  (try dsimp only)
  rename_i DI zs nI hI tkI preI hPI hSI hzl l1 h2' hl1 q0 h3' F3 N3 hl2 h4' F4 N4
  (try dsimp only at N4)
  clear F3 N3
  have hkl : ∀ p ∈ rest ++ preI, NotCell p.2 := mfp hr hSI.notCell
  refine stCMd ((_, W.listOf _ _) :: (l1, W.listOf _ _) :: [(L + 1 + 1 + 1 + 1 + 1, o5), (L + 1 + 1 + 1 + 1, o4), (L + 1 + 1 + 1, o3), ((82 : Addr), tabObj #[])] ++ (rest ++ preI)) F4 N4 rfl (by k_mem) h2 (kc (.inr notCell_list) (kc (.inr notCell_list) (kc (.inl (neN (by omega))) (kc (.inl (neN (by omega))) (kc (.inl (neN (by omega))) (kc (.inr notCell_tab) (fun p hp => ⟨.tail _ (.tail _ (.tail _ (.tail _ (.tail _ (.tail _ (.tail _ (.tail _ (.tail _ (.tail _ hp))))))))), .inr (hkl p hp)⟩)))))
    (.tail _ (.tail _ (.head _)))) (.head _)) fun h5 o' F5 N5 d5 => ?_
  dsimp only
  refine NxT.mk (F := F5) (N := N5) ⟨_, zs ++ [.ref l1], 0, (l1, W.listOf #[.str (Str.ofString "*") tkI, .str (Str.ofString "*") (tkI + 1), .bool false] 0) :: preI, itPicks (wh + 356) kinds1 ++ [starI], o', hPI.star, hSI.cons LstO.of, ?hn, ?hk, d5⟩ rfl ⟨rfl, rfl, trivial⟩ ?hm (Nat.succ_pos _) hb
  case hn => have := (picks_sub (x := wh + 356) (ks := kinds1) rfl).2; rw [List.length_append, List.length_singleton]; omega
  case hk => exact mfp (fun k hk => kinds1_in k ((picks_sub rfl).1 k hk)) (mfa (by decide +kernel) mfe)
  case hm => exact (mfa (.head _) (mfa (.tail _ (.head _)) (mfa (.tail _ (.tail _ (.tail _ (.head _)))) (mfa (.tail _ (.tail _ (.tail _ (.tail _ (.head _))))) (mfa (.tail _ (.tail _ (.tail _ (.tail _ (.tail _ (.head _)))))) (mfa (.tail _ (.tail _ (.tail _ (.tail _ (.tail _ (.tail _ (.head _))))))) (mfp (fun _ hp => .tail _ (.tail _ (.tail _ (.tail _ (.tail _ (.tail _ (.tail _ (List.mem_append_right _ (List.mem_append_left _ hp))))))))) (mfa (.tail _ (.tail _ (.head _))) (fun _ hp => .tail _ (.tail _ (.tail _ (.tail _ (.tail _ (.tail _ (.tail _ (List.mem_append_right _ (List.mem_append_right _ hp)))))))))))))))))
end Mine
end
example : True := by first | walk1 | trivial
section
open PySem PySem.W PyProof.Rows PySem.Calls
namespace Mine
noncomputable def kinds2 : List Str := [Str.ofString "-", Str.ofString "*", Str.ofString "?", Str.ofString "r", Str.ofString "w", Str.ofString "x", Str.ofString "[st]", Str.ofString "[!-]", Str.ofString "d"]
theorem kinds2_len : ∀ k ∈ kinds2, k.length ≤ 100 := by decide +kernel
theorem kinds2_in : ∀ k ∈ kinds2, k ∈ kindL := by decide +kernel
local macro_rules | `(tactic| walk_at "z") => `(tactic| first | assumption | rfl | exact Nat.le_of_ble_eq_true rfl | is_list)
local macro_rules | `(tactic| walk_at "call ref") => `(tactic| (refine itN (ks := kinds2) ss9 rfl kinds2_len (by walk_at "z") (by walk_at "z") (by walk_at "z") (by walk_at "z") (by walk_at "z") (by walk_at "z") (by walk_at "z") ?_; intro _ _ _ _ _ _ _ NI _ _ _; (try dsimp only); (try simp only [List.cons_append, List.nil_append] at NI); (try k_fold)))
set_option maxHeartbeats 4000000 in
theorem law_s4 {w : World} {g : Heap} {L fa : Addr} {cd : Value} {s : Shared} {aF : Addr} {rest : List (Addr × Obj)} {wh : Int} {t : Tok} {m : Str → Option Value} {o3 o4 o5 : Obj} {c3 : Option Value} (G : LawG w g) (hb : AllBare s.gens) (ht : 0 < s.toks)
    (F : Fr g L s.heap (over [(Str.ofString "whole", .int wh t), (Str.ofString "files", .ref aF)] m)) (N : News g L s.heap ((L + 1 + 1 + 1 + 1 + 1, o5) :: (L + 1 + 1 + 1 + 1, o4) :: (L + 1 + 1 + 1, o3) :: ((82 : Addr), tabObj #[]) :: rest)) (h3 : o3.data = .cell c3) (hr : ∀ p ∈ rest, @Ne Nat p.1 (L + 1 + 1 + 1) ∨ NotCell p.2) :
    wpAny (model pw w) (lawA L fa cd) (exec (lawSt 4) (lawE L fa cd)) (NxT (α := LA3) g L (fun _ => [(Str.ofString "whole", .int wh t), (Str.ofString "files", .ref aF)]) (fun a => (L + 1 + 1 + 1, a.o) :: (a.a, W.listOf a.vs.toArray a.n) :: (L + 1 + 1 + 1 + 1 + 1, o5) :: (L + 1 + 1 + 1 + 1, o4) :: ((82 : Addr), tabObj #[]) :: (rest ++ a.pre)) s) NoE s := by
  unfold lawA lawE
  conv in (occs := *) lawScope => all_goals whnf
  conv in lawSt _ => whnf
  refine wp_id ?_
  (try k_fold)
  have X := G.X
  obtain ⟨p, loose, mean, mg, mb, T⟩ := G.T
  have GB := G.good.good
  k_steps
  (try dsimp only)
  rename_i l4 ha hla l3 hb' hlb l2 hc' hlc DI zs nI hI tkI preI hPI hSI hzl hX l1 h2' hl1 q0 h3' F3 N3 hl2 h4' F4 N4
  (try dsimp only at N4)
  clear F3 N3
  have hkl : ∀ p ∈ rest ++ preI, @Ne Nat p.1 (L + 1 + 1 + 1) ∨ NotCell p.2 := mfp hr (fun p hp => .inr (hSI.notCell p hp))
  refine stCMd ((_, W.listOf _ _) :: (l1, W.listOf _ _) :: (l4, W.listOf _ _) :: [(L + 1 + 1 + 1 + 1 + 1, o5), (L + 1 + 1 + 1 + 1, o4), ((82 : Addr), tabObj #[])] ++ (rest ++ preI)) F4 N4 rfl (by k_mem) h3 (kc (.inr notCell_list) (kc (.inr notCell_list) (kc (.inr notCell_list) (kc (.inl (neN (by omega))) (kc (.inl (neN (by omega))) (kc (.inr notCell_tab) (fun p hp => ⟨.tail _ (.tail _ (.tail _ (.tail _ (.tail _ (.tail _ (.tail _ (.tail _ (.tail _ (.tail _ (.tail _ (.tail _ hp))))))))))), hkl p hp⟩))))
    (.tail _ (.tail _ (.tail _ (.tail _ (.tail _ (.tail _ (.tail _ (.head _))))))))) (.tail _ (.tail _ (.head _)))) (.head _)) fun h5 o' F5 N5 d5 => ?_
  dsimp only
  refine NxT.mk (F := F5) (N := N5) ⟨_, .ref l4 :: zs ++ [.ref l1], 0, (l1, W.listOf #[.str (Str.ofString "*") tkI, .str (Str.ofString "*") (tkI + 1), .bool false] 0) :: (l4, W.listOf #[.str (Str.ofString "*") s.toks, .str (Str.ofString "*") (s.toks + 1), .bool false] 0) :: preI, starI :: itPicks (7 * wh + 326) kinds2 ++ [starI], o', (hPI.starHead).star, (hSI.cons LstO.of).cons LstO.of, ?hn, ?hk, d5⟩ rfl ⟨rfl, rfl, trivial⟩ ?hm (Nat.succ_pos _) hb
  case hn => have := (picks_sub (x := 7 * wh + 326) (ks := kinds2) rfl).2; rw [List.length_append, List.length_singleton, List.length_cons]; omega
  case hk => exact mfp (mfa (by decide +kernel) (fun k hk => kinds2_in k ((picks_sub rfl).1 k hk))) (mfa (by decide +kernel) mfe)
  case hm => exact (mfa (.head _) (mfa (.tail _ (.head _)) (mfa (.tail _ (.tail _ (.tail _ (.tail _ (.head _))))) (mfa (.tail _ (.tail _ (.tail _ (.tail _ (.tail _ (.head _)))))) (mfa (.tail _ (.tail _ (.tail _ (.tail _ (.tail _ (.tail _ (.head _))))))) (mfp (fun _ hp => .tail _ (.tail _ (.tail _ (.tail _ (.tail _ (.tail _ (.tail _ (List.mem_append_right _ (List.mem_append_left _ hp))))))))) (mfa (.tail _ (.tail _ (.head _))) (mfa (.tail _ (.tail _ (.tail _ (.head _)))) (fun _ hp => .tail _ (.tail _ (.tail _ (.tail _ (.tail _ (.tail _ (.tail _ (List.mem_append_right _ (List.mem_append_right _ hp)))))))))))))))))
end Mine
end
example : True := by first | walk1 | trivial
section
open PySem PySem.W PyProof.Rows PySem.Calls
namespace Mine
local macro_rules | `(tactic| walk_at "eval ListComp") => `(tactic| refine lc_stop ?_)
noncomputable def OneJ (base : List (Addr × Obj)) (ks : List Str) (i : Nat) (ys : List Value) (news : List (Addr × Obj)) : Prop := news = base ∧ ys.length = i ∧ Ss ys (ks.take i)
theorem one_turn {g h' : Heap} {L : Addr} {m : Str → Option Value} {s : Shared} {tk : Nat} {gs : Array GenState} {base own news : List (Addr × Obj)} {ks : List Str} {ys : List Value} {i : Nat} {I C D : Addr} {oC : Obj} {k : Str} {t : Tok}
    (F' : Fr g L h' m) (N' : News g L h' news) (hN : ∀ p ∈ base ++ ((C, oC) :: own), p ∈ news) (hoff : ∀ p ∈ base, ¬ p.1 ∈ [I, C, D]) (hlen : ys.length = i) (hP : Ss ys (ks.take i)) (hk : ks[i]? = some k) (hb : AllBare gs) :
    EndG g L m [I, C, D] ((C, oC) :: own) (OneJ base ks (i + 1) (ys ++ [.str k t])) s { s with heap := h', toks := tk, gens := gs } :=
  ⟨h', tk, gs, base, rfl, F', News.sub N' hN, hoff, ⟨rfl, by simp [hlen], by rw [take_snoc hk]; exact hP.snoc⟩, hb⟩
theorem it_at {pre : List (Addr × Obj)} {vs : List Value} {ks : List Str} (h : P2 (ItIn pre) vs (ks.map mkItem)) {i : Nat} {v : Value} (hv : vs[i]? = some v) : ∃ k a t1 t2 o, ks[i]? = some k ∧ v = .ref a ∧ (a, o) ∈ pre ∧ LstO o #[.str k t1, .str (mkItem k).some t2, .bool (mkItem k).barred] := by
  obtain ⟨it, hit, a, t1, t2, o, rfl, hm, l, _⟩ := h.at _ _ hv
  rw [List.getElem?_map] at hit
  cases hk : ks[i]? with
  | none => rw [hk] at hit; cases hit
  | some k =>
    rw [hk] at hit
    cases hit
    exact ⟨k, a, t1, t2, o, rfl, rfl, hm, l⟩
structure LA5 where
  x1 : Str
  t1 : Tok
  x2 : Str
  t2 : Tok
  o4 : Obj
  o5 : Obj
  h4 : o4.data = .cell (some (.str x1 t1))
  h5 : o5.data = .cell (some (.str x2 t2))
set_option maxHeartbeats 4000000 in
theorem law_s5 {w : World} {g : Heap} {L fa : Addr} {cd : Value} {s : Shared} {aF a1 a2 : Addr} {vs1 vs2 : List Value} {n1 n2 : Nat} {pre1 pre2 rest : List (Addr × Obj)} {ks1 ks2 : List Str} {m : Str → Option Value} {o2 o3 o4 o5 : Obj} {c4 c5 : Option Value} (G : LawG w g) (hb : AllBare s.gens) (ht : 0 < s.toks)
    (F : Fr g L s.heap (over [(Str.ofString "files", .ref aF)] m)) (N : News g L s.heap ((L + 1 + 1 + 1 + 1 + 1, o5) :: (L + 1 + 1 + 1 + 1, o4) :: (L + 1 + 1 + 1, o3) :: (L + 1 + 1, o2) :: (a1, W.listOf vs1.toArray n1) :: (a2, W.listOf vs2.toArray n2) :: ((82 : Addr), tabObj #[]) :: rest)) (h2 : o2.data = .cell (some (.ref a1))) (h3 : o3.data = .cell (some (.ref a2))) (h4 : o4.data = .cell c4) (h5 : o5.data = .cell c5)
    (hr : ∀ p ∈ rest, NotCell p.2) (hs1 : ∀ p ∈ pre1, p ∈ rest) (hs2 : ∀ p ∈ pre2, p ∈ rest) (hv1 : P2 (ItIn pre1) vs1 (ks1.map mkItem)) (hv2 : P2 (ItIn pre2) vs2 (ks2.map mkItem)) (hn1 : ks1.length ≤ 5) (hn2 : ks2.length ≤ 5) (hk1 : ∀ k ∈ ks1, k ∈ kindL) (hk2 : ∀ k ∈ ks2, k ∈ kindL) :
    wpAny (model pw w) (lawA L fa cd) (exec (lawSt 5) (lawE L fa cd)) (NxT (α := {a : LA5 // a.x1 = cat ks1 ∧ a.x2 = cat ks2}) g L (fun _ => [(Str.ofString "files", .ref aF)]) (fun a => (L + 1 + 1 + 1 + 1 + 1, a.1.o5) :: (L + 1 + 1 + 1 + 1, a.1.o4) :: (L + 1 + 1 + 1, o3) :: (L + 1 + 1, o2) :: (a1, W.listOf vs1.toArray n1) :: (a2, W.listOf vs2.toArray n2) :: ((82 : Addr), tabObj #[]) :: rest) s) NoE s := by
  unfold lawA lawE
  conv in (occs := *) lawScope => all_goals whnf
  conv in lawSt _ => whnf
  refine wp_id ?_
  (try k_fold)
  have X := G.X
  obtain ⟨p, loose, mean, mg, mb, T⟩ := G.T
  have GB := G.good.good
  k_steps
  unfold LcStop
  (try k_fold)
  refine compG g L (over [(Str.ofString "files", .ref aF)] m) (fun _ _ => True) (fun v m₃ => m₃ (Str.ofString "item") = some v) (OneJ ((L + 1 + 1 + 1 + 1 + 1, o5) :: (L + 1 + 1 + 1 + 1, o4) :: (L + 1 + 1 + 1, o3) :: (L + 1 + 1, o2) :: (a1, W.listOf vs1.toArray n1) :: (a2, W.listOf vs2.toArray n2) :: ((82 : Addr), tabObj #[]) :: rest) ks1) rfl rfl (by decide) rfl (by decide) (fun _ => rfl) (fun C => bind_name rfl rfl) ?_
  k_steps
  refine ⟨a1, vs1.toArray, _, rfl, (by assumption), (by assumption), ⟨_, (N _ (.tail _ (.tail _ (.tail _ (.tail _ (.head _)))))).1, rfl, _, rfl⟩, (N _ (.tail _ (.tail _ (.tail _ (.tail _ (.head _)))))).2.1, ?hsz, hb, ?htk, ⟨rfl, rfl, .nil⟩, ?hJl, fun _ _ _ _ _ _ _ _ _ => trivial, ?turn, ?fin⟩
  case htk => show @LT.lt Nat _ 0 _; (try dsimp only); omega
  case hsz => have := hv1.len; rw [List.length_map] at this; rw [sizeLine_eq, List.size_toArray]; omega
  case hJl => rintro i ys _ ⟨_, e, _⟩; omega
  case turn =>
    rintro I C D i v ys _ h tk gs oC m₂ own hlt hi ⟨rfl, hlen, hP⟩ hoff hC hm F2 N2 hb2 ht2 hown hI hD
    refine turn0 ?_
    (try k_fold)
    obtain ⟨k, a, u1, u2, o, hk, rfl, hma, hl⟩ := it_at hv1 (by simpa using hi)
    have hla := hl.isList N2 (List.mem_append_left _ (.tail _ (.tail _ (.tail _ (.tail _ (.tail _ (.tail _ (.tail _ (hs1 _ hma)))))))))
    replace N2 := ledC N2
    simp only [List.cons_append, List.nil_append] at N2
    clear F N
    k_steps
    (try dsimp only)
    rename Fr _ _ _ _ => F3
    rename News _ _ _ _ => N3
    exact one_turn F3 (backC N3) (fun p hp => hp) hoff hlen hP hk hb2
  case fin =>
    clear F N
    rintro D1 h1 tk1 gs1 ys1 _ ⟨rfl, hlen1, hP1⟩ hD1 F N hb2 ht2
    have hS1 : Ss ys1 ks1 := by
      have e : vs1.toArray.size = ks1.length := by rw [List.size_toArray, hv1.len, List.length_map]
      rwa [e, List.take_length] at hP1
    clear hP1
    k_steps
    refine joinC (D := D1) (vs := ys1) ⟨_, (N _ (.head _)).1, rfl, _, rfl⟩ hS1 hk1 hn1 ht2 fun t1 tk1' htk1' => ?_
    (try dsimp only)
    k_steps
    (try dsimp only)
    unfold LcStop
    (try k_fold)
    refine compG g L (over [(Str.ofString "files", .ref aF)] m) (fun _ _ => True) (fun v m₃ => m₃ (Str.ofString "item") = some v) (OneJ ((D1, LCg.lst ys1) :: (L + 1 + 1 + 1 + 1 + 1, o5) :: (L + 1 + 1 + 1 + 1, o4) :: (L + 1 + 1 + 1, o3) :: (L + 1 + 1, o2) :: (a1, W.listOf vs1.toArray n1) :: (a2, W.listOf vs2.toArray n2) :: ((82 : Addr), tabObj #[]) :: rest) ks2) rfl rfl (by decide) rfl (by decide) (fun _ => rfl) (fun C => bind_name rfl rfl) ?_
    k_steps
    refine ⟨a2, vs2.toArray, _, rfl, (by assumption), (by assumption), ⟨_, (N _ (.tail _ (.tail _ (.tail _ (.tail _ (.tail _ (.tail _ (.head _)))))))).1, rfl, _, rfl⟩, (N _ (.tail _ (.tail _ (.tail _ (.tail _ (.tail _ (.tail _ (.head _)))))))).2.1, ?hsz, hb2, ?htk, ⟨rfl, rfl, .nil⟩, ?hJl, fun _ _ _ _ _ _ _ _ _ => trivial, ?turn, ?fin⟩
    case htk => show @LT.lt Nat _ 0 _; (try dsimp only); omega
    case hsz => have := hv2.len; rw [List.length_map] at this; rw [sizeLine_eq, List.size_toArray]; omega
    case hJl => rintro i ys _ ⟨_, e, _⟩; omega
    case turn =>
      rintro I C D i v ys _ h tk gs oC m₂ own hlt hi ⟨rfl, hlen, hP⟩ hoff hC hm F2 N2 hb3 ht3 hown hI hD
      refine turn0 ?_
      (try k_fold)
      obtain ⟨k, a, u1, u2, o, hk, rfl, hma, hl⟩ := it_at hv2 (by simpa using hi)
      have hla := hl.isList N2 (List.mem_append_left _ (.tail _ (.tail _ (.tail _ (.tail _ (.tail _ (.tail _ (.tail _ (.tail _ (hs2 _ hma))))))))))
      replace N2 := ledC N2
      simp only [List.cons_append, List.nil_append] at N2
      clear F N
      k_steps
      (try dsimp only)
      rename Fr _ _ _ _ => F3
      rename News _ _ _ _ => N3
      exact one_turn F3 (backC N3) (fun p hp => hp) hoff hlen hP hk hb3
    case fin =>
      clear F N
      rintro D2 h2x tk2 gs2 ys2 _ ⟨rfl, hlen2, hP2⟩ hD2 F N hb3 ht3
      have hS2 : Ss ys2 ks2 := by
        have e : vs2.toArray.size = ks2.length := by rw [List.size_toArray, hv2.len, List.length_map]
        rwa [e, List.take_length] at hP2
      clear hP2
      k_steps
      refine joinC (D := D2) (vs := ys2) ⟨_, (N _ (.head _)).1, rfl, _, rfl⟩ hS2 hk2 hn2 ht3 fun t2 tk2' htk2' => ?_
      (try dsimp only)
      k_steps
      (try dsimp only)
      rename_i D3 h3x hl3 h4x F4 N4
      refine stCMd ((L + 1 + 1 + 1 + 1 + 1, o5) :: (L + 1 + 1 + 1, o3) :: (L + 1 + 1, o2) :: (a1, W.listOf vs1.toArray n1) :: (a2, W.listOf vs2.toArray n2) :: ((82 : Addr), tabObj #[]) :: rest) F4 N4 rfl (by k_mem) h4 (kc (.inl (neN (by omega))) (kc (.inl (neN (by omega))) (kc (.inl (neN (by omega))) (kc (.inr notCell_list) (kc (.inr notCell_list) (kc (.inr notCell_tab) (fun p hp => ⟨.tail _ (.tail _ (.tail _ (.tail _ (.tail _ (.tail _ (.tail _ (.tail _ (.tail _ (.tail _ (hp)))))))))), .inr (hr p hp)⟩))))))) fun h5x o4' F5 N5 d4 => ?_
      clear F4 N4
      (try dsimp only)
      k_steps
      refine stCMd ((L + 1 + 1 + 1 + 1, o4') :: (L + 1 + 1 + 1, o3) :: (L + 1 + 1, o2) :: (a1, W.listOf vs1.toArray n1) :: (a2, W.listOf vs2.toArray n2) :: ((82 : Addr), tabObj #[]) :: rest) F5 N5 rfl (by k_mem) h5 (kc (.inl (neN (by omega))) (kc (.inl (neN (by omega))) (kc (.inl (neN (by omega))) (kc (.inr notCell_list) (kc (.inr notCell_list) (kc (.inr notCell_tab) (fun p hp => ⟨.tail _ (.tail _ (.tail _ (.tail _ (.tail _ (.tail _ (.tail _ (hp))))))), .inr (hr p hp)⟩))))))) fun h6x o5' F6 N6 d5 => ?_
      (try dsimp only)
      k_steps
      exact NxT.mk (F := F6) (N := N6) ⟨⟨cat ks1, t1, cat ks2, t2, o4', o5', d4, d5⟩, rfl, rfl⟩ rfl ⟨rfl, trivial⟩ (fun p hp => hp) htk2' hb3
end Mine
end
section
open PySem PySem.W PyProof.Rows
namespace Mine
section
variable {prog : Program} {w : World} {A : Around} {E : Value → Shared → Prop} {s : Shared} {e t0 C : Addr} {K : Frag} {o : Obj} {vs : Array Value} {m : Str} {tk : Tok}
theorem own_special {M : Model} {name : Str} {id : String} {args : List Value} {Q : Option Value → Shared → Prop} (X : K.In s.heap) (ho : s.heap.get? e = some o) (hc : o.cls = .ref C) (q1 : findIn K (.ref C) name = some (some (.builtin id)))
    (hb : ∀ self, bindSpecial (.builtin id) self = pure (.builtin id, [self])) (h : wpAny M A (call (.builtin id) (.ref e :: args)) (fun v => Q (some v)) E s) : wpAny M A (callSpecial? (.ref e) name args) Q E s := by
  simp only [callSpecial?, specialOf]
  refine wpAny_bind (wpAny_bind (wpAny_typeOf_ref ho ?_))
  rw [hc]
  refine (looks_findIn X q1).here ?_
  simp only [hb]
  exact wpAny_holding (wpAny_bind (wpAny_pure (wpAny_bind (wpAny_mono h (fun v s' h' => wpAny_pure h') fun _ _ h' => h'))))
theorem bx_kind : builtinKind "BaseException.__str__" = some .slot := by kernel_rfl
theorem bx_split : splitId "BaseException.__str__" = some ("BaseException", "__str__") := by kernel_rfl
theorem own_args {M : Model} {Q : Value × List Value → Shared → Prop} (ho : s.heap.get? e = some o) (hd : o.data = .fields vs) (h0 : vs[0]? = some (.ref t0)) (ht : s.heap.TupAt t0 [.str m tk])
    (hq : Q (.ref t0, [.str m tk]) s) : wpAny M A (Builtin.BaseException.bexcArgs (.ref e)) Q E s := by
  obtain ⟨ot, k, hto, _, htd⟩ := ht
  unfold Builtin.BaseException.bexcArgs
  refine wpAny_bind (wpAny_field ho hd h0 (wpAny_bind (wpAny_seqItems hto htd ?_)))
  have : [Value.str m tk].toArray.toList = [.str m tk] := by simp
  show wpAny M A (pure (Value.ref t0, [Value.str m tk].toArray.toList)) Q E s
  rw [this]; exact wpAny_pure hq
theorem own_isInst {M : Model} (X : K.In s.heap) (ho : s.heap.get? e = some o) (hc : o.cls = .ref C) (q2 : subIn K (.ref C) (.type "BaseException") = some true) : Looks M s.heap (isInstance (.ref e) (.type "BaseException")) true := fun A Q E s' k q => by
  simp only [isInstance]
  refine wpAny_bind (wpAny_typeOf_ref (k _ _ ho) ?_)
  rw [hc]
  exact (looks_subIn (X.keeps k) q2).here q
theorem own_entry {Q : Fin → Shared → Prop} (ho : s.heap.get? e = some o) (hd : o.data = .fields vs) (h0 : vs[0]? = some (.ref t0)) (ht : s.heap.TupAt t0 [.str m tk])
    (hq : Q (.done (.ret (.str m tk))) s) : wpAny (model prog w) A (Builtin.«BaseException.__str__» ⟨[.ref e], []⟩) Q E s := by
  unfold Builtin.«BaseException.__str__»
  repeat (first | with_reducible refine own_args ho hd h0 ht ?_ | wp_step)
  exact hq
theorem own_bexcStr {Q : Value → Shared → Prop} (X : K.In s.heap) (ho : s.heap.get? e = some o) (hc : o.cls = .ref C) (hd : o.data = .fields vs) (h0 : vs[0]? = some (.ref t0)) (ht : s.heap.TupAt t0 [.str m tk])
    (q2 : subIn K (.ref C) (.type "BaseException") = some true) (hq : Q (.str m tk) s) : wpAny (model prog w) A (call (.builtin "BaseException.__str__") [.ref e]) Q E s := by
  refine wpAny_call (codeAny_call_builtin PySem.F.excStr_ValueError.str.plain F.entry_bexc_str ?_)
  have key : ∀ {A' : Around} {Q' : Unit → Shared → Prop} {E' : Value → Shared → Prop}, Q' () s → wpAny (model prog w) A' (checkBuiltinCall "BaseException.__str__" ⟨[.ref e], []⟩) Q' E' s := fun {A' Q' E'} hq' => by
    have h1 := own_isInst (M := model prog w) X ho hc q2
    have h2 := F.args_bexc_str (.ref e)
    exact @check_slot (model prog w) A' E' s "BaseException.__str__" "BaseException" "__str__" (.ref e) [] [] Q' bx_kind bx_split h1 h2 hq'
  refine key ?_
  refine wpAny_mono (own_entry (Q := fun fin s' => ∃ v, fin = .done (.ret v) ∧ Q v s') ho hd h0 ht ⟨_, rfl, hq⟩) (fun fin s' h' => ?_) fun _ _ h' => h'
  obtain ⟨v, rfl, hv⟩ := h'
  exact hv
theorem own_strOf {Q : Value → Shared → Prop} (X : K.In s.heap) (hu : A.units < cLine) (ho : s.heap.get? e = some o) (hc : o.cls = .ref C) (hd : o.data = .fields vs) (h0 : vs[0]? = some (.ref t0)) (ht : s.heap.TupAt t0 [.str m tk])
    (q1 : findIn K (.ref C) "__str__" = some (some (.builtin "BaseException.__str__"))) (q2 : subIn K (.ref C) (.type "BaseException") = some true) (hq : Q (.str m tk) s) : wpAny (model prog w) A (Builtin.Str.strOf (.ref e)) Q E s := by
  unfold Builtin.Str.strOf
  repeat (first | with_reducible refine wpAny_cRoomFor hu ?_ | with_reducible refine own_special X ho hc q1 PySem.F.excStr_ValueError.str.bind (own_bexcStr X ho hc hd h0 ht q2 ?_) | wp_step)
  exact hq
theorem own_str {Q : Value → Shared → Prop} (X : K.In s.heap) (hu : A.units + 2 < cLine) (ho : s.heap.get? e = some o) (hc : o.cls = .ref C) (hd : o.data = .fields vs) (h0 : vs[0]? = some (.ref t0)) (ht : s.heap.TupAt t0 [.str m tk])
    (q1 : findIn K (.ref C) "__str__" = some (some (.builtin "BaseException.__str__"))) (q2 : subIn K (.ref C) (.type "BaseException") = some true) (hq : Q (.str m tk) s) : wpAny (model prog w) A (call (.type "str") [.ref e]) Q E s :=
  callType_new F.called_str (by decide) (F.typeCall_str_1 _) (F.newCall_str_1 _) (fun obj => F.args_object_init_2 obj _) F.entry_str_new
    (meets_str_new (S := fun A' R s' => A'.units + 1 < cLine ∧ K.In s'.heap ∧ s'.heap.get? e = some o ∧ s'.heap.TupAt t0 [.str m tk] ∧ R (.ok (.ret (.str m tk))) s')
      fun _ _ A' _ _ hq => own_strOf (A := A'.in1) hq.2.1 hq.1 hq.2.2.1 hc hd h0 hq.2.2.2.1 q1 q2 hq.2.2.2.2)
    ⟨(show A.units + 1 + 1 < cLine from hu), X, ho, ht, typeIs_str _ _ _, hq⟩
theorem own_got {h₀ : Heap} {L : Addr} {news₂ : List (Addr × Obj)} {mm : Str → Option Value} {Q : Value → Shared → Prop} (X : K.In h₀) (F : Fr h₀ L s.heap mm) (N : News h₀ L s.heap news₂) (G : Got news₂ e t0 (.ref C) [.str m tk])
    (q1 : findIn K (.ref C) "__str__" = some (some (.builtin "BaseException.__str__"))) (q2 : subIn K (.ref C) (.type "BaseException") = some true) (hu : A.units + 2 < cLine) (hq : Q (.str m tk) s) : wpAny (model prog w) A (call (.type "str") [.ref e]) Q E s := by
  obtain ⟨oe, ot, ws, nt, h1, h2, hc, hd, h0, htc, htd⟩ := G
  exact own_str (X.keeps F.keep) hu (N.get h1) hc hd h0 ⟨ot, nt, N.get h2, htc, htd⟩ q1 q2 hq
end
end Mine
end
example : True := by first | walk1 | trivial
section
open PySem PySem.W PyProof.Rows
namespace Mine
theorem one_frame {env : Env} {L : Addr} (hf : env.frame = some L) {b : Addr} (hb : b ∈ [env].filterMap (·.frame)) : b = L := by
  obtain ⟨e, he, h⟩ := List.mem_filterMap.mp hb
  rw [List.mem_singleton.mp he, hf] at h
  exact (Option.some.inj h).symm
/-- a def called from a frame of any make, with its try inside: nothing but the caller's slots turns -/
theorem enterS {prog : Program} {w : World} {A₀ A : Around} {s : Shared} {base h₀ : Heap} {L : Addr} {m : Str → Option Value} {env : Env} {news : List (Addr × Obj)} {K : Frag} {p : Program} {loose : List Str} {mean : ExcName → Option Value} {mg mb : Str → Option Value}
    {R : Result → Shared → Prop} {name qual : Str} {params : Arguments} {body : List Stmt} {scope : Scope} {dV kV doc pm cdv ct oc : Value} {an od : Option Addr} {osl : Array (Option Value)} {f : Addr} {args : Args} {binds : List (Str × Value)}
    (B : Below A₀ base [] h₀) (F : Fr h₀ L s.heap m) (X₀ : K.In h₀) (N : News h₀ L s.heap news) (T : Top p loose mean mg mb h₀) (hA : A.frames = some [env]) (hf : env.frame = some L) (hke : env.scope.kind = .function)
    (ho : K.lookup f = some ⟨oc, od, .func (fnOf name qual params body scope dV kV doc pm an cdv ct), osl⟩) (hcd : codeIn K cdv qual = true) (hroom : A.depth < recursionLimit)
    (hbind : BindsTo s (fnOf name qual params body scope dV kV doc pm an cdv ct) args binds) (hloc : ∀ y ∈ binds, scope.names.lookup y.1 = some .local)
    (h : ∀ g L' h₁, Fr h₀ L g m → Fr g L' h₁ (fun y => binds.reverse.lookup y) → News g L' h₁ news → Below A base [env] g → K.In g → Top p loose mean mg mb g → KtsDicts ([env].filterMap (·.frame)) g →
      wpAny (model prog w) (A.deeper (envOf qual scope L' f cdv)) (execs body (envOf qual scope L' f cdv))
        (fun fl s' => LeaveS0 ([env].filterMap (·.frame)) h₀ L m g R (match fl with | .ret v => v | _ => .none) s')
        (fun e s' => wpAny (model prog w) (A.deeper (envOf qual scope L' f cdv)) (leaving (envOf qual scope L' f cdv) e) (fun _ s'' => R (.error e) s'') (fun e' s'' => R (.error e') s'') s')
        { s with heap := h₁, toks := s.toks + binds.length })
    (hco : scope.isCoroutine = false) (hgen : scope.isGenerator = false) (hk : scope.kind = .function)
    (hcell : ∀ x ∈ scope.names, x.2 ≠ .cell) : codeAny (model prog w) A (.call (.ref f) args) R s := by
  obtain ⟨FG, BG, st, _⟩ := groundX (R := R) B F N hA hf hke
  have hnone : h₀.get? L = none := kts_self F
  have h₀none : ∀ {b : Addr} {g g' : Heap}, h₀.StaysIn g → KtsTurn ([env].filterMap (·.frame)) g g' → g'.get? b = none → h₀.get? b = none := fun {b g g'} st T e => by
    cases q : h₀.get? b with
    | none => rfl
    | some o =>
      obtain ⟨sl, hs⟩ := T.up (st _ _ q)
      rw [e] at hs; cases hs
  refine codeAny_call_def (fd := fnOf name qual params body scope dV kV doc pm an cdv ct) (body := body) (binds := binds) hroom ((X₀.keeps F.keep) _ _ ho) rfl (T.nolimit.keeps F.keep) (codeRec_of (X₀.keeps F.keep) hcd) rfl hbind hcell hloc (fun h₁ hns hk₁ => ?_) hco hgen hk
  have hd : KtsDicts ([env].filterMap (·.frame)) (hideAll s.heap (news.map (·.1))) := fun b hb => by
    rw [one_frame hf hb]
    obtain ⟨o, es, ep, e, hd, _⟩ := FG.ns
    exact ⟨o, es, ep, e, hd⟩
  refine wpAny_mono (h _ s.heap.objs.size h₁ FG ⟨hns, fun b o e => hk₁ b o (of_hideAll _ e), Nat.le_of_eq (hideAll_size _ _)⟩
    (fun p hp => ⟨hk₁ _ _ (N p hp).1, Nat.ne_of_lt (Heap.lt_size (N p hp).1), hideAll_none _ (List.mem_map_of_mem hp)⟩) BG (X₀.keeps st) (T.keeps st) hd) (fun fl s' hl => ?_) fun _ _ y => y
  obtain ⟨g', L', m', news', T', F', N', k⟩ := hl
  obtain ⟨oL, es, ep, eL, hdL, h1, h2⟩ := FG.ns
  obtain ⟨sl, hsl⟩ := T'.up eL
  refine k ⟨⟨_, es, ep, F'.keep _ _ hsl, hdL, h1, h2⟩, fun b o e => F'.keep b o (T'.other b o (st b o e) fun hb => ?_), F.above⟩ fun p hp => ⟨(N' p hp).1, fun q => ?_, h₀none st T' (N' p hp).2.2⟩
  · rw [one_frame hf hb, hnone] at e; cases e
  · have := (N' p hp).2.2
    rw [show p.1 = L from q, hsl] at this; cases this
local macro_rules | `(tactic| walk_at "call type:str") => `(tactic| (k_here; (with_reducible show wpAny _ _ (call (Value.type "str") [Value.ref _]) _ _ _); refine' own_got ?k1 ?k2 ?k3 ?k4 ?k5 ?k6 ?k7 ?_; (case k4 => assumption); (case k3 => assumption); (case k2 => k_asm); (case k1 => assumption); (case k5 => k_is); (case k6 => k_is); (case k7 => exact Nat.le_of_ble_eq_true rfl)))
set_option maxHeartbeats 2000000 in
theorem rx_ct {w : World} {x : Str} {t1 : Tok} {nm : Str} {nms : List (Str × NameKind)} {mo : List (Str × Const)} {L a : Addr} {cd : Value} {h₀ : Heap} {m mg mb : Str → Option Value} {news : List (Addr × Obj)} {s : Shared} {p : Program} {loose : List Str} {mean : ExcName → Option Value} {Q : Value → Shared → Prop} {E : Value → Shared → Prop}
   (hlen : x.length ≤ 1000) (h257 : (Txt.slice x none (some 3) != Str.ofString "257") = true)
   (K : Below callerA h₀ [] h₀) (F : Fr h₀ L s.heap m) (X : (hd.heap_39 w.params).In h₀) (N : News h₀ L s.heap news) (T : Top p loose mean mg mb h₀)
   (hQ : ∀ t' h' tk', Fr h₀ L h' m → News h₀ L h' news → Q (.str (Str.ofString "refused") t') {s with heap := h', toks := tk' }) : wpAny (model pw w) (callerA.deeper (envOfC nm { kind := .function, names := nms, isGenerator := false, isCoroutine := false, more := mo } L a cd)) (call (.ref 172) [.str x t1]) Q E s := by
  refine wpAny_call ?_
  refine' enterS ?k1 ?k2 ?k3 ?k4 ?k5 ?kA ?kf ?ke ?k6 ?k7 ?k8 ?k9 ?kB ?_ ?c2 ?c3 ?c4 ?c5
  case kA => exact rfl
  case kf => exact rfl
  case ke => exact rfl
  case k1 => exact K
  case k2 => exact F
  case k3 => exact X
  case k4 => exact N
  case k5 => exact T
  case k6 => k_is
  case k7 => k_is
  case k8 => k_room
  case k9 => exact BindsTo.of_eq rfl
  case kB => exact locs rfl
  case c2 => exact rfl
  case c3 => exact rfl
  case c4 => exact rfl
  case c5 => decide
  intro g' L' h' FG' F' N' B' X' T' D'
  (try dsimp only)
  (try k_fold)
  k_steps
  all_goals (try dsimp only)
  · exact hQ _ _ _ (by assumption) (by assumption)
  · exfalso
    have : (x == x) = false := by assumption
    simp at this
end Mine
end
example : True := by first | walk1 | trivial
section
open PySem PySem.W PyProof.Rows PySem.Calls
namespace Mine
local macro_rules | `(tactic| walk_at "eval ListComp") => `(tactic| refine lc_stop ?_)
local macro_rules | `(tactic| walk_at "z") => `(tactic| first | assumption | rfl | exact Nat.le_of_ble_eq_true rfl | omega | (dsimp only; omega) | (intro _; intros; try dsimp only))
local macro_rules | `(tactic| walk_at "call ref") => `(tactic| ((apply ctpE_use (rp_ct (by assumption) (by assumption)) <;> walk_at "z"); try k_fold))
noncomputable def FlR (fs : List Value) (fls : List Fl) (v a b c : Value) : Prop := ∀ (i : Nat) (f : Fl), fs[i]? = some v → fls[i]? = some f → ∃ t1 t2, a = .bool f.good ∧ b = .str f.name t1 ∧ c = .int f.bits t2
noncomputable def RdJ (base : List (Addr × Obj)) (fls : List Fl) (i : Nat) (ys : List Value) (news : List (Addr × Obj)) : Prop :=
  ∃ pre, news = base ++ pre ∧ ys.length = i ∧ Lsts pre ∧ P2 (RdIn pre) ys ((fls.take i).map Fl.due)
theorem LstO.inj {o : Obj} {a b : Array Value} (h1 : LstO o a) (h2 : LstO o b) : a = b := by
  obtain ⟨_, n, e⟩ := h1
  obtain ⟨_, n', e'⟩ := h2
  rw [e] at e'
  injection e'
theorem fl_tp {g h : Heap} {L : Addr} {news pre : List (Addr × Obj)} {fs : List Value} {fls : List Fl} {i : Nat} {v : Value} (hv : P2 (FlIn pre) fs fls) (N : News g L h news) (hs : ∀ p ∈ pre, p ∈ news) (hi : fs[i]? = some v) :
    ∃ tp a b c, v = .ref tp ∧ h.IsList tp #[a, b, c] ∧ FlR fs fls v a b c := by
  obtain ⟨f, hf, tp, t1, t2, o, rfl, hm, l, ok⟩ := hv.at i v hi
  refine ⟨tp, _, _, _, rfl, l.isList N (hs _ hm), fun j f' hj hf' => ?_⟩
  obtain ⟨f2, hf2, tp2, u1, u2, o2, e, hm2, l2, ok2⟩ := hv.at j _ hj
  rw [hf'] at hf2
  cases hf2
  cases e
  have h1 := (N _ (hs _ hm)).1
  rw [(N _ (hs _ hm2)).1] at h1
  cases h1
  have := l.inj l2
  simp only [Array.mk.injEq, List.cons.injEq, and_true] at this
  exact ⟨u1, u2, this.1, this.2.1, this.2.2⟩
theorem rd_end {g h h' : Heap} {L : Addr} {m : Str → Option Value} {s : Shared} {tk : Nat} {gs : Array GenState} {base own pre : List (Addr × Obj)} {fls : List Fl} {ys : List Value} {i : Nat} {I C D : Addr} {oC : Obj} {v : Value} {f : Fl}
    (hf : fls[i]? = some f) (ok : f.ok) (F : Fr g L h m) (N₀ : News g L h ((C, oC) :: (base ++ pre ++ own))) (F' : Fr g L h' m) (N : News g L h' ((C, oC) :: (base ++ pre ++ own))) (r : RdAt h h' v f.due) (hI : ∃ o, (I, o) ∈ own) (hD : ∃ o, (D, o) ∈ own)
    (hoff : ∀ p ∈ base ++ pre, ¬ p.1 ∈ [I, C, D]) (hlen : ys.length = i) (hpre : Lsts pre) (hP : P2 (RdIn pre) ys ((fls.take i).map Fl.due)) (hb : AllBare gs) :
    EndG g L m [I, C, D] ((C, oC) :: own) (RdJ base fls (i + 1) (ys ++ [v])) s { s with heap := h', toks := tk, gens := gs } := by
  obtain ⟨pre', N', hR, hL, hne⟩ := rd_ledger ok F N₀ N r
  obtain ⟨oI, hI⟩ := hI
  obtain ⟨oD, hD⟩ := hD
  refine ⟨h', tk, gs, base ++ (pre ++ pre'), rfl, F', News.sub N' (mfp (mfp (fun _ hp => List.mem_append_right _ (.tail _ (List.mem_append_left _ (List.mem_append_left _ hp)))) (mfp (fun _ hp => List.mem_append_right _ (.tail _ (List.mem_append_left _ (List.mem_append_right _ hp)))) (fun _ hp => List.mem_append_left _ hp))) (mfa (List.mem_append_right _ (.head _)) (fun _ hp => List.mem_append_right _ (.tail _ (List.mem_append_right _ hp))))), mfp (fun p hp => hoff p (List.mem_append_left _ hp)) (mfp (fun p hp => hoff p (List.mem_append_right _ hp)) (fun p hp hm => ?_)), ⟨pre ++ pre', rfl, by simp [hlen], mfp hpre hL, ?_⟩, hb⟩
  · rcases List.mem_cons.mp hm with e | hm
    · exact hne p hp (I, oI) (.tail _ (List.mem_append_right _ hI)) e
    rcases List.mem_cons.mp hm with e | hm
    · exact hne p hp (C, oC) (.head _) e
    · exact hne p hp (D, oD) (.tail _ (List.mem_append_right _ hD)) (List.mem_singleton.mp hm)
  · rw [take_snoc hf, List.map_append]
    exact (hP.mono fun _ _ x => x.sub fun p hp => List.mem_append_left _ hp).snoc (hR.sub fun p hp => List.mem_append_right _ hp)
theorem namesL_rep' {x : Str} (h : x ∈ namesL) : (Txt.replace x (Str.ofString "\"") (Str.ofString "\"\"")).length ≤ 100 := by
  simp only [namesL, List.mem_cons, List.not_mem_nil, or_false] at h
  rcases h with rfl | rfl | rfl | rfl | rfl <;> decide +kernel
theorem rp_len {good : Bool} {name : Str} {bits : Int} (hn : name ∈ namesL) : (rpHead good name bits ++ rpTail bits).length ≤ 1000 := by
  have hr := namesL_rep' hn
  have h1 : (rpHead good name bits).length ≤ 110 := by
    unfold rpHead
    rw [Str.length_append]
    have h5 : (if good = true then (if bits.fmod 7 = 5 then Str.ofString "257 -\"" else Str.ofString "257 \"") else (if bits.fmod 7 = 5 then Str.ofString "250 -\"" else Str.ofString "250 \"")).length ≤ 10 := by
      (repeat' split) <;> exact Nat.le_of_ble_eq_true rfl
    omega
  have h2 : (rpTail bits).length ≤ 110 := by
    unfold rpTail
    split
    · exact Nat.le_of_ble_eq_true rfl
    · have := fmText_len (md := bits)
      have h3 : (Str.ofString "\" ").length = 2 := rfl
      rw [Str.length_append]
      omega
  rw [Str.length_append]
  omega
structure LA6 where
  aT : Addr
  ts : List Value
  nT : Nat
  aD : Addr
  ds : List Value
  nD : Nat
  pre : List (Addr × Obj)
set_option maxHeartbeats 4000000 in
theorem law_s6 {w : World} {g : Heap} {L fa : Addr} {cd : Value} {s : Shared} {aF : Addr} {fs : List Value} {nF : Nat} {preF rest : List (Addr × Obj)} {fls : List Fl} {m : Str → Option Value} (G : LawG w g) (hb : AllBare s.gens) (ht : 0 < s.toks)
    (F : Fr g L s.heap (over [(Str.ofString "files", .ref aF)] m)) (N : News g L s.heap ((aF, W.listOf fs.toArray nF) :: ((82 : Addr), tabObj #[]) :: rest)) (hs : ∀ p ∈ preF, p ∈ rest) (hv : P2 (FlIn preF) fs fls) (hn : fls.length ≤ 11) :
    wpAny (model pw w) (lawA L fa cd) (exec (lawSt 6) (lawE L fa cd)) (NxT (α := {a : LA6 // Lsts a.pre ∧ P2 (RdIn a.pre) a.ts (fls.map Fl.due) ∧ P2 (RdIn a.pre) a.ds (fls.map Fl.due)}) g L (fun a => [(Str.ofString "told", .ref a.1.aT), (Str.ofString "due", .ref a.1.aD)]) (fun a => (a.1.aT, W.listOf a.1.ts.toArray a.1.nT) :: (a.1.aD, W.listOf a.1.ds.toArray a.1.nD) :: ((82 : Addr), tabObj #[]) :: (rest ++ a.1.pre)) s) NoE s := by
  unfold lawA lawE
  conv in (occs := *) lawScope => all_goals whnf
  conv in lawSt _ => whnf
  refine wp_id ?_
  (try k_fold)
  have X := G.X
  obtain ⟨p, loose, mean, mg, mb, T⟩ := G.T
  have GB := G.good.good
  k_steps
  unfold LcStop
  (try k_fold)
  refine compG g L (over [(Str.ofString "files", .ref aF)] m) (fun v h => ∃ tp a b c, v = .ref tp ∧ h.IsList tp #[a, b, c] ∧ FlR fs fls v a b c) (fun v m => ∃ a b c, FlR fs fls v a b c ∧ m (Str.ofString "good") = some a ∧ m (Str.ofString "name") = some b ∧ m (Str.ofString "bits") = some c) (RdJ ((aF, W.listOf fs.toArray nF) :: ((82 : Addr), tabObj #[]) :: rest) fls) rfl rfl (by decide) rfl (by decide) (fun _ => rfl) (fun C => bind_three (FlR fs fls) rfl rfl rfl rfl (by decide) (by decide) (by decide) rfl) ?_
  k_steps
  refine ⟨aF, fs.toArray, _, rfl, (by assumption), (by assumption), ⟨_, (N _ (.head _)).1, rfl, _, rfl⟩, (N _ (.head _)).2.1, ?hsz, hb, ?htk, ⟨[], (List.append_nil _).symm, rfl, Lsts.nil, .nil⟩, ?hJl, ?hTP, ?turn, ?fin⟩
  case htk => show @LT.lt Nat _ 0 _; (try dsimp only); omega
  case hsz => have := hv.len; rw [sizeLine_eq, List.size_toArray]; omega
  case hJl => rintro i ys _ ⟨pre, _, e, _⟩; omega
  case hTP =>
    rintro i v ys _ h ⟨pre, rfl, _⟩ hi F2 N2
    exact fl_tp hv N2 (fun p hp => List.mem_append_left _ (.tail _ (.tail _ (hs p hp)))) (by simpa using hi)
  case turn =>
    rintro I C D i v ys _ h tk gs oC m₂ own hlt hi ⟨pre, rfl, hlen, hpre, hP⟩ hoff hC hm F2 N2 hb9 ht2 hown hI hD
    refine turn0 ?_
    (try k_fold)
    obtain ⟨a, b, c, hR, hma, hmb, hmc⟩ := hm
    obtain ⟨f, hf, _, _, _, _, _, _, _, ok⟩ := hv.at i v (by simpa using hi)
    obtain ⟨t1, t2, rfl, rfl, rfl⟩ := hR i f (by simpa using hi) hf
    have hnm : f.name.length ≤ 100 := by have := namesL_len ok.1; omega
    have hrep := namesL_rep ok.1
    replace N2 := ledC N2
    clear F N
    by_cases hg : f.good = true
    · k_steps
      (try dsimp only)
      rename Fr _ _ _ _ => F3
      rename News _ _ _ _ => N3
      obtain ⟨n, hn2, hn3⟩ := Fl.nat ok
      refine ct_use (rd_ct ?hl ?h2) rfl (Nat.le_of_ble_eq_true rfl) (Nat.le_of_ble_eq_true rfl) F3 N3 GB trivial fun v h' tk' hp hk F4 N4 => ?_
      case hl => exact rp_len ok.1
      case h2 => rw [hn2, rp_257, if_pos hg]
      rw [show rdR (rpHead f.good f.name f.bits ++ rpTail f.bits) = f.due from by rw [hg, hn2, rd_du hn3 ok.1]; show _ = duR f.good f.name f.bits; rw [hg, hn2]] at hp
      exact rd_end hf ok F3 N3 F4 N4 hp hI hD hoff hlen hpre hP hb9
    · k_steps
      (try dsimp only)
      rename Fr _ _ _ _ => F3
      rename News _ _ _ _ => N3
      obtain ⟨n, hn2, hn3⟩ := Fl.nat ok
      refine rx_ct ?hl ?h2 G.B F3 X N3 T fun t' h' tk' F4 N4 => ?_
      case hl => exact rp_len ok.1
      case h2 => rw [hn2, rp_257, if_neg hg]; decide
      exact rd_end hf ok F4 N4 F4 N4 (by rw [show f.due = .word (Str.ofString "refused") from if_pos (by simpa using hg)]; exact ⟨t', rfl⟩) hI hD hoff hlen hpre hP hb9
  case fin =>
    clear F N
    rintro D1 h1 tk1 gs1 ys1 _ ⟨pre1, rfl, hlen1, hpre1, hP1⟩ hD1 F N hb2 ht3
    have e1 : fs.toArray.size = fls.length := by rw [List.size_toArray, hv.len]
    rw [e1, List.take_length] at hP1
    replace N : News g L h1 ((D1, LCg.lst ys1) :: (aF, W.listOf fs.toArray nF) :: ((82 : Addr), tabObj #[]) :: (rest ++ pre1)) := N
    k_steps
    unfold LcStop
    (try k_fold)
    refine compG g L (over [(Str.ofString "files", .ref aF)] m) (fun v h => ∃ tp a b c, v = .ref tp ∧ h.IsList tp #[a, b, c] ∧ FlR fs fls v a b c) (fun v m => ∃ a b c, FlR fs fls v a b c ∧ m (Str.ofString "good") = some a ∧ m (Str.ofString "name") = some b ∧ m (Str.ofString "bits") = some c) (RdJ ((D1, LCg.lst ys1) :: (aF, W.listOf fs.toArray nF) :: ((82 : Addr), tabObj #[]) :: (rest ++ pre1)) fls) rfl rfl (by decide) rfl (by decide) (fun _ => rfl) (fun C => bind_three (FlR fs fls) rfl rfl rfl rfl (by decide) (by decide) (by decide) rfl) ?_
    k_steps
    refine ⟨aF, fs.toArray, _, rfl, (by assumption), (by assumption), ⟨_, (N _ (.tail _ (.head _))).1, rfl, _, rfl⟩, (N _ (.tail _ (.head _))).2.1, ?hsz, hb2, ?htk, ⟨[], (List.append_nil _).symm, rfl, Lsts.nil, .nil⟩, ?hJl, ?hTP, ?turn, ?fin⟩
    case htk => show @LT.lt Nat _ 0 _; (try dsimp only); omega
    case hsz => have := hv.len; rw [sizeLine_eq, List.size_toArray]; omega
    case hJl => rintro i ys _ ⟨pre, _, e, _⟩; omega
    case hTP =>
      rintro i v ys _ h ⟨pre, rfl, _⟩ hi F2 N2
      exact fl_tp hv N2 (fun p hp => List.mem_append_left _ (.tail _ (.tail _ (.tail _ (List.mem_append_left _ (hs p hp)))))) (by simpa using hi)
    case turn =>
      rintro I C D i v ys _ h tk gs oC m₂ own hlt hi ⟨pre, rfl, hlen, hpre, hP⟩ hoff hC hm F2 N2 hb9 ht2 hown hI hD
      refine turn0 ?_
      (try k_fold)
      obtain ⟨a, b, c, hR, hma, hmb, hmc⟩ := hm
      obtain ⟨f, hf, _, _, _, _, _, _, _, ok⟩ := hv.at i v (by simpa using hi)
      obtain ⟨t1, t2, rfl, rfl, rfl⟩ := hR i f (by simpa using hi) hf
      have hnm : f.name.length ≤ 100 := by have := namesL_len ok.1; omega
      have hrep := namesL_rep ok.1
      replace N2 := ledC N2
      clear F N
      k_steps
      (try dsimp only)
      rename Fr _ _ _ _ => F3
      rename News _ _ _ _ => N3
      refine ct_use (du_ct ok.2.1 ok.2.2) rfl (Nat.le_of_ble_eq_true rfl) (Nat.le_of_ble_eq_true rfl) F3 N3 GB trivial fun v h' tk' hp hk F4 N4 => ?_
      exact rd_end hf ok F3 N3 F4 N4 hp hI hD hoff hlen hpre hP hb9
    case fin =>
      clear F N
      rintro D2 h2 tk2 gs2 ys2 _ ⟨pre2, rfl, hlen2, hpre2, hP2⟩ hD2 F N hb4 ht4
      rw [e1, List.take_length] at hP2
      replace N : News g L h2 ((D2, LCg.lst ys2) :: (D1, LCg.lst ys1) :: (aF, W.listOf fs.toArray nF) :: ((82 : Addr), tabObj #[]) :: (rest ++ pre1 ++ pre2)) := N
      k_steps
      (try dsimp only)
      rename Fr _ _ _ _ => F'
      rename News _ _ _ _ => N'
      exact NxT.mk (F := F') (N := N') ⟨⟨D1, ys1, ys1.length, D2, ys2, ys2.length, pre1 ++ pre2⟩, mfp hpre1 hpre2, hP1.mono fun _ _ x => x.sub fun p hp => List.mem_append_left _ hp, hP2.mono fun _ _ x => x.sub fun p hp => List.mem_append_right _ hp⟩ rfl ⟨rfl, rfl, trivial⟩ (mfa (.tail _ (.tail _ (.head _))) (mfa (.tail _ (.head _)) (mfa (.tail _ (.tail _ (.tail _ (.tail _ (.head _))))) (mfp (fun _ hp => .tail _ (.tail _ (.tail _ (.tail _ (.tail _ (List.mem_append_left _ (List.mem_append_left _ hp))))))) (mfp (fun _ hp => .tail _ (.tail _ (.tail _ (.tail _ (.tail _ (List.mem_append_left _ (List.mem_append_right _ hp))))))) (fun _ hp => .tail _ (.tail _ (.tail _ (.tail _ (.tail _ (List.mem_append_right _ hp))))))))))) (Nat.succ_pos _) hb4
end Mine
end
example : True := by first | walk1 | trivial
section
open PySem PySem.W PyProof.Rows PySem.Calls
namespace Mine
/-- the branch of a bracket; its tail, once the stuff stands -/
noncomputable def tlBr : List Stmt := (prts (nthS (prts (nthS (prts (nthS (prts (nthS (fdOf 10).2.1 3)).2.1 2)).2.2 0)).2.2 0)).2.1
noncomputable def tlTail : List Stmt := (prts (nthS tlBr 4)).2.2.drop 2
noncomputable def tlScope : Scope := (fdOf 10).2.2
theorem sliceS {prog : Program} {w : World} {A : Around} {E : Value → Shared → Prop} {s : Shared} {value slice : PySem.Expr} {x c : Str} {t : Tok} {h₀ : Heap} {L : Addr} {m : Str → Option Value} {news : List (Addr × Obj)} {Q : Value → Shared → Prop} {i j : Int} {ui uj : Tok} (hc : Txt.slice x (some i) (some j) = c) (hF : Fr h₀ L s.heap m) (hN : News h₀ L s.heap news) (hlen : x.length ≤ 1000) (hpos : @LT.lt Nat _ 0 s.toks)
    (hs : subscripted slice false (.str x t) (.ref s.heap.objs.size) = operate [.ref s.heap.objs.size, .str x t] (getItem (.str x t) (.ref s.heap.objs.size)))
    (ht : ∀ r, letTemporaryGo value (.str x t) r = pure ())
    (h : ∀ h' t' k, Fr h₀ L h' m → News h₀ L h' news → 0 < k → Q (.str c t') { s with heap := h', toks := k }) : wpAny (model prog w) A (subscriptTail value slice (.str x t) (.ref s.heap.objs.size)) Q E { s with heap := s.heap.push { cls := .type "slice", data := .fields #[.int i ui, .int j uj, .none] } } := sliceC hc hF hN h hlen hpos hs ht
theorem getM_subF {M : Model} {A : Around} {E : Value → Shared → Prop} {s : Shared} {h₀ : Heap} {L : Addr} {m : Str → Option Value} {pl : Sem Bool} {Q : Value × List Value → Shared → Prop} (R : RePat h₀ 68 67) (F : Fr h₀ L s.heap m) (h : Q (.builtin "re.Pattern.sub", [.ref 68]) s) : wpAny M A (getMethod (.ref 68) "sub" pl) Q E s := getM_sub (R.keeps F.keep) h
local macro_rules | `(tactic| walk_at "d") => `(tactic| first | assumption | decide | decide +kernel)
local macro_rules | `(tactic| walk_at "z") => `(tactic| first | (with_reducible show wpAny _ _ _ _ _ _) | (with_reducible intro _; intros; try dsimp only) | k_asm | k_mem | with_unfolding_all rfl | omega | exact Nat.le_of_ble_eq_true rfl | decide | (dsimp only; omega))
local macro_rules | `(tactic| walk_at "ite") => `(tactic| first | refine ite_yes (by walk_at "d") ?_ | refine ite_no (by walk_at "d") ?_)
local macro_rules | `(tactic| walk_at "callWith ref") => `(tactic| (k_here; apply callWith_appN <;> walk_at "z"))
local macro_rules | `(tactic| walk_at "AppAt") => `(tactic| apply appAt_of <;> walk_at "z")
local macro_rules | `(tactic| walk_at "call ref") => `(tactic| (k_here; (with_reducible apply appM) <;> walk_at "z"))
local macro_rules | `(tactic| walk_at "subscriptTail Name Slice str ref") => `(tactic| (apply sliceS <;> walk_at "z"))
local macro_rules | `(tactic| walk_at "eval Lambda") => `(tactic| apply lamM <;> walk_at "z")
local macro_rules | `(tactic| walk_at "call builtin:re.Pattern.sub") => `(tactic| apply subN <;> walk_at "z")
local macro_rules | `(tactic| walk_at "getMethod ref") => `(tactic| (k_here; apply getM_subF <;> walk_at "z"))
local macro_rules | `(tactic| walk_at "execs cons") => `(tactic| (refine execs_tk (by walk_at "z") ?_; (try k_fold)))
theorem wp_id' {α : Type} {M : Model} {A : Around} {t : Sem α} {Q : α → Shared → Prop} {E : Value → Shared → Prop} {s : Shared} (h : wpAny M A t Q E s) : wpAny M A t Q E s := h
noncomputable def TlEnd (gb : Heap) (L R B st : Addr) (x : Str) (t1 t3 : Tok) (vs : List Value) (p : Str) (i ln : Int) (s : Shared) (Q : Flow → Shared → Prop) : Prop :=
  ∀ h' tk' gs' ps' t ti tn m' n', Fr gb L h' m' → Has m' [(Str.ofString "pat", .str x t1), (Str.ofString "STAR", .ref st), (Str.ofString "QUESTION_MARK", .str (Str.ofString ".") t3), (Str.ofString "res", .ref R), (Str.ofString "add", .ref B), (Str.ofString "i", .int i ti), (Str.ofString "n", .int ln tn)] →
    News gb L h' [(R, W.listOf (List.toArray (vs ++ [.str p t])) n'), ((82 : Addr), tabObj ps'), (B, boundApp R)] → TriplesOk ps'.toList → AllBare gs' → 0 < tk' → Q .next { s with heap := h', toks := tk', gens := gs' }
noncomputable def tlP (u : Str) : Str := if (Txt.item u 0 == Str.ofString "!") = true then Str.empty ++ Str.ofString "[" ++ (Str.ofString "^" ++ Txt.slice u (some 1) none) ++ Str.ofString "]" else Str.empty ++ Str.ofString "[" ++ u ++ Str.ofString "]"
set_option maxHeartbeats 4000000 in
theorem tl_tail {w : World} {gb : Heap} {L : Addr} {s : Shared} {x u : Str} {t1 t3 tu : Tok} {st R B : Addr} {vs : List Value} {n : Nat} {ps : Array Value} {jz ln : Int} {tj tn : Tok} {m : Str → Option Value} {Q : Flow → Shared → Prop} {E : Value → Shared → Prop}
    (GB : GoodT w gb) (F : Fr gb L s.heap (over [(Str.ofString "pat", .str x t1), (Str.ofString "STAR", .ref st), (Str.ofString "QUESTION_MARK", .str (Str.ofString ".") t3), (Str.ofString "res", .ref R), (Str.ofString "add", .ref B), (Str.ofString "j", .int jz tj), (Str.ofString "n", .int ln tn), (Str.ofString "stuff", .str u tu)] m))
    (N : News gb L s.heap [(R, W.listOf vs.toArray n), ((82 : Addr), tabObj ps), (B, boundApp R)]) (ht0 : TriplesOk ps.toList) (hb : AllBare s.gens) (htk : 0 < s.toks) (hvl : vs.length ≤ 10) (hR : @LT.lt Nat _ 82 R) (hB : @LT.lt Nat _ R B) (l82 : @LT.lt Nat _ 82 L)
    (hd1 : ReDead u) (hul : u.length ≤ 1000) (hu0 : 0 < u.length) (hu1 : ¬ ((u == Str.ofString "!") = true))
    (h : TlEnd gb L R B st x t1 t3 vs (tlP u) (jz + 1) ln s Q)
    (hc : (Txt.item u 0 == Str.ofString "!") = true ∨ (¬ (Txt.item u 0 == Str.ofString "!") = true ∧ ¬ (Txt.item u 0 == Str.ofString "^") = true ∧ ¬ (Txt.item u 0 == Str.ofString "[") = true)) :
    wpAny (model pw w) ((A0 650).deeper (envOf (Str.ofString "_translate") tlScope L 87 (.ref 86))) (execs tlTail (envOf (Str.ofString "_translate") tlScope L 87 (.ref 86))) Q E s := by
  conv in (occs := *) tlScope => all_goals whnf
  conv in tlTail => whnf
  refine wp_id' ?_
  have X := GB.X
  obtain ⟨p, loose, mg, mb, T, bmn⟩ := GB.T
  have C86 := code86 X
  have Tg := T.g
  have R68 := repat X
  have Gd := GB.good
  k_steps
  all_goals (try dsimp only)
  · rw [tlP, if_pos (by assumption)] at h
    exact h _ _ _ _ _ _ _ _ _ (by assumption) ⟨rfl, rfl, rfl, rfl, rfl, rfl, rfl, trivial⟩ (by assumption) (by assumption) hb (by assumption)
  · exfalso
    rename (List.any _ _ = true) => ha
    rename ((Txt.item u 0 == Str.ofString "!") = false) => hf
    rcases hc with hc | ⟨_, hc1, hc2⟩
    · rw [hf] at hc; cases hc
    · simp only [List.any_cons, List.any_nil, Bool.or_false, Bool.or_eq_true] at ha
      rcases ha with ha | ha
      · exact hc1 (by rw [eq_of_beq ha]; exact beq_self_eq_true _)
      · exact hc2 (by rw [eq_of_beq ha]; exact beq_self_eq_true _)
  · rw [tlP, if_neg (by rw [‹(Txt.item u 0 == Str.ofString "!") = false›]; exact Bool.false_ne_true)] at h
    exact h _ _ _ _ _ _ _ _ _ (by assumption) ⟨rfl, rfl, rfl, rfl, rfl, rfl, rfl, trivial⟩ (by assumption) (by assumption) hb (by assumption)
  · exfalso; omega
example : True := by first | walk1 | trivial
open PySem PySem.W PyProof.Rows PySem.Calls
noncomputable def ExStop {M : Model} (A : Around) (l : List Stmt) (env : Env) (Q : Flow → Shared → Prop) (E : Value → Shared → Prop) (s : Shared) : Prop := wpAny M A (execs l env) Q E s
theorem ex_stop {M : Model} {A : Around} {l : List Stmt} {env : Env} {Q : Flow → Shared → Prop} {E : Value → Shared → Prop} {s : Shared} (h : ExStop (M := M) A l env Q E s) : wpAny M A (execs l env) Q E s := h
local macro_rules | `(tactic| walk_at "execs cons") => `(tactic| ((with_reducible show wpAny _ _ (execs [Stmt.Assign _ (PySem.Expr.Call _ _ _ _) _, _, _] _) _ _ _); (try dsimp only); refine ex_stop ?_))
local macro_rules | `(tactic| walk_at "call builtin:str.replace") => `(tactic| apply replC <;> walk_at "z")
local macro_rules | `(tactic| walk_at "subscriptTail Name Name str int") => `(tactic| (apply item_cT <;> walk_at "z"))
theorem ix {X Y : Int} {t : Tok} (e : X = Y) : some (Value.int X t) = some (Value.int Y t) := by rw [e]
noncomputable abbrev tlV (x : Str) (t1 t3 : Tok) (st R B : Addr) (i ln : Int) (ti tn : Tok) : List (Str × Value) := [(Str.ofString "pat", .str x t1), (Str.ofString "STAR", .ref st), (Str.ofString "QUESTION_MARK", .str (Str.ofString ".") t3), (Str.ofString "res", .ref R), (Str.ofString "add", .ref B), (Str.ofString "i", .int i ti), (Str.ofString "n", .int ln tn)]
noncomputable abbrev tlV2 (x : Str) (t1 t3 : Tok) (st R B : Addr) (i ln : Int) (ti tn : Tok) (j : Int) (tj : Tok) : List (Str × Value) := [(Str.ofString "pat", .str x t1), (Str.ofString "STAR", .ref st), (Str.ofString "QUESTION_MARK", .str (Str.ofString ".") t3), (Str.ofString "res", .ref R), (Str.ofString "add", .ref B), (Str.ofString "i", .int i ti), (Str.ofString "n", .int ln tn), (Str.ofString "j", .int j tj)]
set_option maxHeartbeats 4000000 in
theorem tl_pre {w : World} {gb : Heap} {L : Addr} {s : Shared} {x : Str} {t1 t3 ti tn : Tok} {st R B : Addr} {i : Int} {b : Bool} {e : Nat} {m : Str → Option Value} {news : List (Addr × Obj)} {Q : Flow → Shared → Prop} {E : Value → Shared → Prop}
    (GB : GoodT w gb) (F : Fr gb L s.heap (over (tlV x t1 t3 st R B i x.length ti tn) m)) (N : News gb L s.heap news) (htk : 0 < s.toks) (hlen : x.length ≤ 1000) (hi0 : 0 ≤ i)
    (hb : (Txt.item x i == Str.ofString "!") = b) (hbe : (if b = true then 1 else 0) < e)
    (hs : ∀ d : Nat, (if b = true then 1 else 0) ≤ d → d < e → (Txt.item x (i + d) == Str.ofString "]") = false) (he : Txt.item x (i + e) = Str.ofString "]") (hie : i + e < x.length)
    (h : ∀ h' tk' tj m', Fr gb L h' (over (tlV2 x t1 t3 st R B i x.length ti tn (i + e) tj) m') → News gb L h' news → 0 < tk' →
      wpAny (model pw w) ((A0 650).deeper (envOf (Str.ofString "_translate") tlScope L 87 (.ref 86))) (execs (tlBr.drop 4) (envOf (Str.ofString "_translate") tlScope L 87 (.ref 86))) Q E { s with heap := h', toks := tk' }) :
    wpAny (model pw w) ((A0 650).deeper (envOf (Str.ofString "_translate") tlScope L 87 (.ref 86))) (execs tlBr (envOf (Str.ofString "_translate") tlScope L 87 (.ref 86))) Q E s := by
  conv at h in (occs := *) tlScope => all_goals whnf
  conv at h in (tlBr.drop 4) => whnf
  conv in (occs := *) tlScope => all_goals whnf
  conv in tlBr => whnf
  refine wp_id' ?_
  have X := GB.X
  obtain ⟨p, loose, mg, mb, T, bmn⟩ := GB.T
  refine cutp (α := Tok) ?g1 ?L1 ?l1 ?n1 ?t1 ?h1a ?h1b
  case g1 => exact gb
  case L1 => exact L
  case l1 => exact fun t => tlV2 x t1 t3 st R B i x.length ti tn i t
  case n1 => exact fun _ => news
  case t1 => exact htk
  · k_steps
    exact Nx.mk _ rfl (by assumption) ⟨rfl, rfl, rfl, rfl, rfl, rfl, rfl, rfl, trivial⟩ (by assumption) (fun _ h => h)
  intro tj1 h1 tk1 m1 F1 N1 htk1
  clear F N
  refine cutp (α := Tok) ?g2 ?L2 ?l2 ?n2 ?t2 ?h2a ?h2b
  case g2 => exact gb
  case L2 => exact L
  case l2 => exact fun t => tlV2 x t1 t3 st R B i x.length ti tn (i + (if b = true then 1 else 0 : Nat)) t
  case n2 => exact fun _ => news
  case t2 => exact htk1
  · k_steps
    · have z1 : i + 1 = i + ((if b = true then 1 else 0 : Nat) : Int) := by rw [← hb, ‹(Txt.item x i == Str.ofString "!") = true›]; rfl
      exact Nx.mk _ rfl (by assumption) ⟨rfl, rfl, rfl, rfl, rfl, rfl, rfl, ix z1, trivial⟩ (by assumption) (fun _ h => h)
    · have z1 : i = i + ((if b = true then 1 else 0 : Nat) : Int) := by rw [← hb, ‹(Txt.item x i == Str.ofString "!") = false›]; exact (Int.add_zero i).symm
      exact Nx.mk _ rfl (by assumption) ⟨rfl, rfl, rfl, rfl, rfl, rfl, rfl, ix z1, trivial⟩ (by assumption) (fun _ h => h)
  generalize hcb : (if b = true then 1 else 0 : Nat) = cb at hbe hs ⊢
  clear hcb hb
  intro tj2 h2 tk2 m2 F2 N2 htk2
  clear F1 N1
  have hs0 := hs cb (Nat.le_refl _) hbe
  refine cutp (α := Tok) ?g3 ?L3 ?l3 ?n3 ?t3 ?h3a ?h3b
  case g3 => exact gb
  case L3 => exact L
  case l3 => exact fun t => tlV2 x t1 t3 st R B i x.length ti tn (i + cb) t
  case n3 => exact fun _ => news
  case t3 => exact htk2
  · k_steps
    exact Nx.mk _ rfl (by assumption) ⟨rfl, rfl, rfl, rfl, rfl, rfl, rfl, rfl, trivial⟩ (by assumption) (fun _ h => h)
  intro tj3 h3 tk3 m3 F3 N3 htk3
  clear F2 N2
  refine cutp (α := Tok) ?g4 ?L4 ?l4 ?n4 ?t4 ?h4a ?h4b
  case g4 => exact gb
  case L4 => exact L
  case l4 => exact fun t => tlV2 x t1 t3 st R B i x.length ti tn (i + e) t
  case n4 => exact fun _ => news
  case t4 => exact htk3
  · refine wpAny_While ?_
    refine whileS (g := gb) (L := L) (fun k m nw => ∃ (d : Nat) (tj : Tok), e = d + k ∧ cb ≤ d ∧ nw = news ∧ Has m (tlV2 x t1 t3 st R B i x.length ti tn (i + d) tj)) (e - cb) F3 N3 ⟨cb, tj3, by omega, Nat.le_refl _, rfl, ⟨rfl, rfl, rfl, rfl, rfl, rfl, rfl, rfl, trivial⟩⟩ ?_
    rintro k m₁ news₁ h7 tk7 ⟨d, tj, hdk, hcd, rfl, Hm⟩ F7 N7
    rw [← Hm.over] at F7
    clear F3 N3
    k_steps
    · refine WTest.true ?_
      have hde : d ≠ e := fun q => by
        have hq := ‹(Txt.item x (i + (d : Int)) != Str.ofString "]") = true›
        rw [q, he] at hq
        exact absurd hq (by decide)
      k_steps
      have z1 : i + (d : Int) + 1 = i + ((d + 1 : Nat) : Int) := by rw [Int.natCast_succ, Int.add_assoc]
      exact WTurn.next (k - 1) (by omega) rfl (by assumption) (by assumption) ⟨d + 1, _, by omega, by omega, rfl, ⟨rfl, rfl, rfl, rfl, rfl, rfl, rfl, ix z1, trivial⟩⟩
    · have hde : d = e := Decidable.byContradiction fun q => by
        have hq := ‹(Txt.item x (i + (d : Int)) != Str.ofString "]") = false›
        rw [bne, hs d hcd (by omega)] at hq
        exact absurd hq (by decide)
      have z1 : i + (d : Int) = i + (e : Int) := by rw [hde]
      refine WTest.false ?_
      refine wpAny_execs_nil ?_
      show Nx _ _ _ _ _ _ _
      exact Nx.mk _ rfl (by assumption) ⟨rfl, rfl, rfl, rfl, rfl, rfl, rfl, ix z1, trivial⟩ (by assumption) (fun _ h => h)
  intro tj4 h4 tk4 m4 F4 N4 htk4
  exact h _ _ _ _ F4 N4 htk4
set_option maxHeartbeats 4000000 in
theorem tl_nd {w : World} {gb : Heap} {L : Addr} {s : Shared} {x u : Str} {t1 t3 ti tn : Tok} {st R B : Addr} {vs : List Value} {n : Nat} {ps : Array Value} {i jz : Int} {tj : Tok} {m : Str → Option Value} {Q : Flow → Shared → Prop} {E : Value → Shared → Prop}
    (GB : GoodT w gb) (F : Fr gb L s.heap (over (tlV2 x t1 t3 st R B i x.length ti tn jz tj) m))
    (N : News gb L s.heap [(R, W.listOf vs.toArray n), ((82 : Addr), tabObj ps), (B, boundApp R)]) (ht0 : TriplesOk ps.toList) (hb : AllBare s.gens) (htk : 0 < s.toks) (hvl : vs.length ≤ 10) (hR : @LT.lt Nat _ 82 R) (hB : @LT.lt Nat _ R B) (l82 : @LT.lt Nat _ 82 L)
    (hlen : x.length ≤ 1000) (hi0 : 0 ≤ i) (hj : jz < x.length) (hsl : Txt.slice x (some i) (some jz) = u)
    (hrep : Txt.replace u (Str.ofString "\\") (Str.ofString "\\\\") = u) (hnd : (Builtin.Str.occurrences u (Str.ofString "-") 0 u.length 1).isEmpty = true)
    (hd1 : ReDead u) (hul : u.length ≤ 10) (hu0 : 0 < u.length) (hu1 : ¬ ((u == Str.ofString "!") = true))
    (h : TlEnd gb L R B st x t1 t3 vs (tlP u) (jz + 1) x.length s Q)
    (hc : (Txt.item u 0 == Str.ofString "!") = true ∨ (¬ (Txt.item u 0 == Str.ofString "!") = true ∧ ¬ (Txt.item u 0 == Str.ofString "^") = true ∧ ¬ (Txt.item u 0 == Str.ofString "[") = true)) :
    wpAny (model pw w) ((A0 650).deeper (envOf (Str.ofString "_translate") tlScope L 87 (.ref 86))) (execs (tlBr.drop 4) (envOf (Str.ofString "_translate") tlScope L 87 (.ref 86))) Q E s := by
  conv in (occs := *) tlScope => all_goals whnf
  conv in (tlBr.drop 4) => whnf
  refine wp_id' ?_
  have X := GB.X
  obtain ⟨p, loose, mg, mb, T, bmn⟩ := GB.T
  k_steps
  unfold ExStop
  rename Fr _ _ _ _ => F'
  rename News _ _ _ _ => N'
  refine tl_tail GB (Fr.over (l := [(Str.ofString "pat", .str x t1), (Str.ofString "STAR", .ref st), (Str.ofString "QUESTION_MARK", .str (Str.ofString ".") t3), (Str.ofString "res", .ref R), (Str.ofString "add", .ref B), (Str.ofString "j", .int jz tj), (Str.ofString "n", .int x.length tn), (Str.ofString "stuff", .str u _)]) F' ⟨rfl, rfl, rfl, rfl, rfl, rfl, rfl, rfl, trivial⟩) N' ht0 hb (by show @LT.lt Nat _ 0 _; (try dsimp only); first | assumption | omega) hvl hR hB l82 hd1 (by omega) hu0 hu1 ?_ hc
  clear F' N'
  intro h8 tk8 gs8 ps8 tz tiz tnz m8 n8 F8 Hm8 N8 htr8 hb8 htk8
  k_steps
  exact h _ _ _ _ _ _ _ _ _ F8 Hm8 N8 htr8 hb8 htk8
example : True := by first | walk1 | trivial
open PySem PySem.W PyProof.Rows PySem.Calls
theorem gaR {prog : Program} {w : World} {A : Around} {E : Value → Shared → Prop} {s : Shared} {h₀ : Heap} {L a : Addr} {xs : Array Value} {k : Nat} {m : Str → Option Value} {news : List (Addr × Obj)} {Q : Value → Shared → Prop} (F : Fr h₀ L s.heap m) (N : News h₀ L s.heap news) (hm : (a, W.listOf xs k) ∈ news)
    (h : ∀ x h' tk, Fr h₀ L h' m → News h₀ L h' ((x, boundApp a) :: news) → @LT.lt Nat _ a x → Q (.ref x) { s with heap := h', toks := tk }) : wpAny (model prog w) A (getAttr (.ref a) (Str.ofString "append") true) Q E s := gaN F N hm fun x h' tk F' N' hl => h x h' tk F' N' (hl _ hm)
local macro_rules | `(tactic| walk_at "getAttr ref") => `(tactic| (k_here; apply gaR <;> walk_at "z"))
local macro_rules | `(tactic| walk_at "truthy ref") => `(tactic| first | (apply truthyCons <;> walk_at "z") | (apply truthyNil <;> walk_at "z"))
local macro_rules | `(tactic| walk_at "subscriptTail") => `(tactic| (k_here; apply lastR <;> walk_at "z"))
local macro_rules | `(tactic| walk_at "call builtin:str.find") => `(tactic| apply call_find <;> walk_at "z")
set_option maxHeartbeats 4000000 in
theorem tl_dash {w : World} {gb : Heap} {L : Addr} {s : Shared} {x : Str} {t1 t3 ti tn : Tok} {st R B : Addr} {vs : List Value} {n : Nat} {ps : Array Value} {i jz : Int} {tj : Tok} {m : Str → Option Value} {Q : Flow → Shared → Prop}
    (GB : GoodT w gb) (F : Fr gb L s.heap (over (tlV2 x t1 t3 st R B i x.length ti tn jz tj) m))
    (N : News gb L s.heap [(R, W.listOf vs.toArray n), ((82 : Addr), tabObj ps), (B, boundApp R)]) (ht0 : TriplesOk ps.toList) (hb : AllBare s.gens) (htk : 0 < s.toks) (hvl : vs.length ≤ 10) (hR : @LT.lt Nat _ 82 R) (hB : @LT.lt Nat _ R B) (l82 : @LT.lt Nat _ 82 L)
    (hlen : x.length ≤ 1000) (hi0 : 0 ≤ i) (hj : jz < x.length) (hjz : jz = i + 1 + 1) (s1 : Txt.slice x (some i) (some jz) = Str.ofString "!-") (c1 : Txt.item x i = Str.ofString "!")
    (h : TlEnd gb L R B st x t1 t3 vs (tlP (Str.ofString "!\\-")) (jz + 1) x.length s Q) :
    wpAny (model pw w) ((A0 650).deeper (envOf (Str.ofString "_translate") tlScope L 87 (.ref 86))) (execs (tlBr.drop 4) (envOf (Str.ofString "_translate") tlScope L 87 (.ref 86))) Q NoE s := by
  conv in (occs := *) tlScope => all_goals whnf
  conv in (tlBr.drop 4) => whnf
  refine wp_id' ?_
  have X := GB.X
  obtain ⟨p, loose, mg, mb, T, bmn⟩ := GB.T
  have C86 := code86 X
  k_steps
  refine' genM (out := Str.ofString "!\\-") ?hh ?hroom ?kF ?kN ?hv ?hch ?kB ?kR ?kt ?k1 ?k2 ?k3 ?ht (TopRead.g ?kT) ?kb (TopRead.nolimit ?kT2) ?kC ?hbare ?a1 ?a2 ?a3 ?a4 ?a5 ?a6 ?a7 ?a8 ?a9 ?a10 ?helt ?hout ?_
  case hh => exact rfl
  case hroom => k_room
  case kF => k_asm
  case kN => k_asm
  case hv => exact rfl
  case hch => k_mem
  case kB => k_mem
  case kR => k_mem
  case kt => k_mem
  case k1 => exact neN (by omega)
  case k2 => exact neN (by omega)
  case k3 => exact neN (by omega)
  case ht => assumption
  case kT => assumption
  case kT2 => assumption
  case kb => assumption
  case kC => assumption
  case hbare => assumption
  case a1 => exact rfl
  case a2 => exact rfl
  case a3 => decide
  case a4 => exact rfl
  case a5 => exact rfl
  case a6 => exact rfl
  case a7 => exact rfl
  case a8 => exact rfl
  case a9 => decide
  case a10 => exact fun _ => rfl
  case hout => decide
  case helt =>
    intro Cl code bi A' E' s₂ m₂ hA ht hn hm
    exact elt_dash ht hn hm
  intro I s' hj
  refine spliced_none ?_
  show wpAny _ _ (call (Value.builtin "str.join") [Value.str _ _, Value.ref I]) _ _ _
  refine hj (by decide) ?_
  intro t' h' tk' gs' ps' F' N' htr' hb'
  clear hj
  (try dsimp only)
  have hd5 : ReDead (Str.ofString "!\\-") := dead5
  k_steps
  unfold ExStop
  rename Fr _ _ _ _ => F'
  rename News _ _ _ _ => N'
  refine tl_tail GB (Fr.over (l := [(Str.ofString "pat", .str x t1), (Str.ofString "STAR", .ref st), (Str.ofString "QUESTION_MARK", .str (Str.ofString ".") t3), (Str.ofString "res", .ref R), (Str.ofString "add", .ref B), (Str.ofString "j", .int jz _), (Str.ofString "n", .int x.length tn), (Str.ofString "stuff", .str _ _)]) F' ⟨rfl, rfl, rfl, rfl, rfl, rfl, rfl, rfl, trivial⟩) N' htr' hb' (by show @LT.lt Nat _ 0 _; (try dsimp only); first | assumption | omega) hvl hR hB l82 hd5 (by decide) (by decide) (by decide) ?_ (by decide +kernel)
  clear F' N'
  intro h8 tk8 gs8 ps8 tz tiz tnz m8 n8 F8 Hm8 N8 htr8 hb8 htk8
  k_steps
  exact h _ _ _ _ _ _ _ _ _ F8 Hm8 N8 htr8 hb8 htk8
theorem tl_br {w : World} {gb : Heap} {L : Addr} {s : Shared} {x kd : Str} {t1 t3 ti tn : Tok} {st R B : Addr} {vs : List Value} {n : Nat} {ps : Array Value} {i : Nat} {m : Str → Option Value} {Q : Flow → Shared → Prop}
    (GB : GoodT w gb) (F : Fr gb L s.heap (over (tlV x t1 t3 st R B ((i : Int) + 1) x.length ti tn) m))
    (N : News gb L s.heap [(R, W.listOf vs.toArray n), ((82 : Addr), tabObj ps), (B, boundApp R)]) (ht0 : TriplesOk ps.toList) (hb : AllBare s.gens) (htk : 0 < s.toks) (hvl : vs.length ≤ 10) (hR : @LT.lt Nat _ 82 R) (hB : @LT.lt Nat _ R B) (l82 : @LT.lt Nat _ 82 L)
    (hlen : x.length ≤ 1000)
    (hk : kd = ⟨#[91, 34, 93]⟩ ∨ kd = ⟨#[91, 33, 97, 93]⟩ ∨ kd = ⟨#[91, 33, 34, 93]⟩ ∨ kd = ⟨#[91, 115, 116, 93]⟩ ∨ kd = ⟨#[91, 33, 45, 93]⟩)
    (hxl : (i : Int) + kd.length ≤ x.length)
    (hit : ∀ (d n : Nat), kd.cps[d]? = some n → Txt.item x ((i : Int) + d) = ⟨#[n]⟩)
    (hsl : ∀ (d e : Nat) (a b : Int) (c : Str), a = (i : Int) + d → b = (i : Int) + e → d ≤ e → e ≤ kd.cps.size → (⟨kd.cps.extract d e⟩ : Str) = c → Txt.slice x (some a) (some b) = c)
    (h : TlEnd gb L R B st x t1 t3 vs (partK kd) ((i : Int) + kd.length) x.length s Q) :
    wpAny (model pw w) ((A0 650).deeper (envOf (Str.ofString "_translate") tlScope L 87 (.ref 86))) (execs tlBr (envOf (Str.ofString "_translate") tlScope L 87 (.ref 86))) Q NoE s := by
  have pre : ∀ (u : Str) (b : Bool), kd.length = u.length + 2 → (kd.cps[1]?.map fun n => ((⟨#[n]⟩ : Str) == Str.ofString "!")) = some b → (if b = true then 1 else 0) < u.length →
      (∀ d, d < u.length → (if b = true then 1 else 0) ≤ d → (kd.cps[1 + d]?.map fun n => ((⟨#[n]⟩ : Str) == Str.ofString "]")) = some false) → kd.cps[1 + u.length]? = some 93 → kd.cps.size = u.length + 2 → (⟨kd.cps.extract 1 (1 + u.length)⟩ : Str) = u →
      (∀ jz h' tk' tj m', jz = (i : Int) + 1 + u.length → jz + 1 = (i : Int) + kd.length → Txt.slice x (some ((i : Int) + 1)) (some jz) = u → Fr gb L h' (over (tlV2 x t1 t3 st R B ((i : Int) + 1) x.length ti tn jz tj) m') → News gb L h' [(R, W.listOf vs.toArray n), ((82 : Addr), tabObj ps), (B, boundApp R)] → 0 < tk' →
        wpAny (model pw w) ((A0 650).deeper (envOf (Str.ofString "_translate") tlScope L 87 (.ref 86))) (execs (tlBr.drop 4) (envOf (Str.ofString "_translate") tlScope L 87 (.ref 86))) Q NoE { s with heap := h', toks := tk' }) →
      wpAny (model pw w) ((A0 650).deeper (envOf (Str.ofString "_translate") tlScope L 87 (.ref 86))) (execs tlBr (envOf (Str.ofString "_translate") tlScope L 87 (.ref 86))) Q NoE s := by
    intro u b hl h1 hbe hs he hz hu hq
    have at' : ∀ {d n : Nat} {b : Bool} {f : Nat → Bool}, (kd.cps[d]?.map f) = some b → ∃ n, Txt.item x ((i : Int) + d) = ⟨#[n]⟩ ∧ f n = b := fun {d n b f} e => by
      cases q : kd.cps[d]? with
      | none => rw [q] at e; cases e
      | some n => rw [q] at e; exact ⟨n, hit d n q, Option.some.inj e⟩
    refine tl_pre (e := u.length) (b := b) GB F N htk hlen (by omega) ?_ hbe (fun d hd1 hd2 => ?_) ?_ (by rw [hl] at hxl; omega) fun h' tk' tj m' F' N' k' => hq _ h' tk' tj m' rfl (by rw [hl]; omega) (hsl 1 (1 + u.length) _ _ _ rfl (by omega) (by omega) (by omega) hu) F' N' k'
    · obtain ⟨n, e1, e2⟩ := at' (n := 0) h1
      rw [show (i : Int) + 1 = (i : Int) + ((1 : Nat) : Int) by omega, e1, e2]
    · obtain ⟨n, e1, e2⟩ := at' (n := 0) (hs d hd2 hd1)
      rw [show (i : Int) + 1 + (d : Int) = (i : Int) + ((1 + d : Nat) : Int) by omega, e1, e2]
    · rw [show (i : Int) + 1 + (u.length : Int) = (i : Int) + ((1 + u.length : Nat) : Int) by omega]
      exact (hit _ _ he).trans (by decide)
  have nd : ∀ (u : Str) (b : Bool), kd.length = u.length + 2 → (kd.cps[1]?.map fun n => ((⟨#[n]⟩ : Str) == Str.ofString "!")) = some b → (if b = true then 1 else 0) < u.length →
      (∀ d, d < u.length → (if b = true then 1 else 0) ≤ d → (kd.cps[1 + d]?.map fun n => ((⟨#[n]⟩ : Str) == Str.ofString "]")) = some false) → kd.cps[1 + u.length]? = some 93 → kd.cps.size = u.length + 2 → (⟨kd.cps.extract 1 (1 + u.length)⟩ : Str) = u →
      Txt.replace u (Str.ofString "\\") (Str.ofString "\\\\") = u → (Builtin.Str.occurrences u (Str.ofString "-") 0 u.length 1).isEmpty = true → ReDead u → u.length ≤ 10 → ¬ ((u == Str.ofString "!") = true) →
      ((Txt.item u 0 == Str.ofString "!") = true ∨ (¬ (Txt.item u 0 == Str.ofString "!") = true ∧ ¬ (Txt.item u 0 == Str.ofString "^") = true ∧ ¬ (Txt.item u 0 == Str.ofString "[") = true)) → partK kd = tlP u →
      wpAny (model pw w) ((A0 650).deeper (envOf (Str.ofString "_translate") tlScope L 87 (.ref 86))) (execs tlBr (envOf (Str.ofString "_translate") tlScope L 87 (.ref 86))) Q NoE s := by
    intro u b hl h1 hbe hs he hz hu hrep hnd hd1 hul hu1 hc hp
    refine pre u b hl h1 hbe hs he hz hu fun jz h' tk' tj m' hj hj1 hsz F' N' k' => tl_nd GB F' N' ht0 hb k' hvl hR hB l82 hlen (by omega) (by omega) hsz hrep hnd hd1 hul (by omega) hu1 ?_ hc
    rw [hp, ← hj1] at h
    exact h
  rcases hk with rfl | rfl | rfl | rfl | rfl
  · exact nd (Str.ofString "\"") false (by decide) (by decide) (by decide) (by decide) (by decide) (by decide) (by decide) (by decide +kernel) (by decide +kernel) dead1 (by decide) (by decide) (by decide +kernel) (by decide +kernel)
  · exact nd (Str.ofString "!a") true (by decide) (by decide) (by decide) (by decide) (by decide) (by decide) (by decide) (by decide +kernel) (by decide +kernel) dead2 (by decide) (by decide) (by decide +kernel) (by decide +kernel)
  · exact nd (Str.ofString "!\"") true (by decide) (by decide) (by decide) (by decide) (by decide) (by decide) (by decide) (by decide +kernel) (by decide +kernel) dead3 (by decide) (by decide) (by decide +kernel) (by decide +kernel)
  · exact nd (Str.ofString "st") false (by decide) (by decide) (by decide) (by decide) (by decide) (by decide) (by decide) (by decide +kernel) (by decide +kernel) dead4 (by decide) (by decide) (by decide +kernel) (by decide +kernel)
  · refine pre (Str.ofString "!-") true (by decide) (by decide) (by decide) (by decide) (by decide) (by decide) (by decide) fun jz h' tk' tj m' hj hj1 hsz F' N' k' => tl_dash GB F' N' ht0 hb k' hvl hR hB l82 hlen (by omega) (by omega) hj hsz ?_ ?_
    · rw [show (i : Int) + 1 = (i : Int) + ((1 : Nat) : Int) by omega]
      exact (hit 1 33 rfl).trans (by decide)
    · rw [hj1]
      exact h
example : True := by first | walk1 | trivial
open PySem PySem.W PyProof.Rows PySem.Calls
theorem isNotS {prog : Program} {w : World} {A : Around} {E : Value → Shared → Prop} {s : Shared} {x : Str} {t : Tok} {a : Addr} {Q : Value → Shared → Prop} (h : Q (.bool true) s) : wpAny (model prog w) A (compareOp .IsNot (.str x t) (.ref a)) Q E s := wpAny_isNot_other (by rfl) (by intro x; cases x) h
theorem es_use {w : World} {n : Nat} {t1 : Tok} {A : Around} {h₀ : Heap} {L : Addr} {s : Shared} {m : Str → Option Value} {news : List (Addr × Obj)} {Q : Value → Shared → Prop} {E : Value → Shared → Prop} (hn : esPlain n = true ∨ n = 32 ∨ n = 45)
    (h1 : A.handled = none) (h2 : A.depth ≤ 690) (h3 : A.units ≤ 690) (F : Fr h₀ L s.heap m) (N : News h₀ L s.heap news) (G : Good w h₀)
    (h : ∀ t h' tk', Fr h₀ L h' m → News h₀ L h' news → Q (.str (escN n) t) { s with heap := h', toks := tk' }) : wpAny (model pw w) A (call (.ref 80) [.str ⟨#[n]⟩ t1]) Q E s :=
  ct_use (es_ct hn) h1 h2 h3 F N G trivial fun v h' tk' ht _ F' N' => by obtain ⟨t, rfl⟩ := ht; exact h t h' tk' F' N'
local macro_rules | `(tactic| walk_at "call ref") => `(tactic| ((apply es_use <;> walk_at "z"); try k_fold))
local macro_rules | `(tactic| walk_at "compareOp IsNot") => `(tactic| (k_here; apply isNotS))
local macro_rules | `(tactic| walk_at "execs cons") => `(tactic| ((with_reducible show wpAny _ _ (execs [Stmt.Assign _ (PySem.Expr.Name _ _) _, _, _, _, _] _) _ _ _); (try dsimp only); refine ex_stop ?_))
theorem cat_append : ∀ (a b : List Str), cat (a ++ b) = cat a ++ cat b
  | [], b => by show cat b = (⟨#[]⟩ : Str) ++ cat b; show cat b = ⟨#[] ++ (cat b).cps⟩; rw [Array.empty_append]
  | k :: a, b => by show k ++ cat (a ++ b) = (k ++ cat a) ++ cat b; rw [cat_append a b]; exact (congrArg (Str.mk) (Array.append_assoc ..)).symm
theorem parts_next {st : Addr} {vs : List Value} {dn : List Str} {kd p : Str} {t : Tok} (hP : Parts st vs (partsOf dn)) (hdn : partsOf (dn ++ [kd]) = addPart (partsOf dn) kd) (hne : kd ≠ ⟨#[42]⟩) (hp : partK kd = p) : Parts st (vs ++ [.str p t]) (partsOf (dn ++ [kd])) := by
  rw [hdn, addPart, if_neg hne, hp]
  exact hP.snoc_txt
theorem kind_cases {kd : Str} (h : kd ∈ kindL) : (∃ n, kd = ⟨#[n]⟩ ∧ (esPlain n = true ∨ n = 32 ∨ n = 45) ∧ partK kd = escN n ∧ ¬ (((⟨#[n]⟩ : Str) == Str.ofString "*") = true) ∧ ¬ (((⟨#[n]⟩ : Str) == Str.ofString "?") = true) ∧ ¬ (((⟨#[n]⟩ : Str) == Str.ofString "[") = true) ∧ kd ≠ ⟨#[42]⟩) ∨ kd = ⟨#[42]⟩ ∨ kd = ⟨#[63]⟩ ∨ kd = ⟨#[91, 34, 93]⟩ ∨ kd = ⟨#[91, 33, 97, 93]⟩ ∨ kd = ⟨#[91, 33, 34, 93]⟩ ∨ kd = ⟨#[91, 115, 116, 93]⟩ ∨ kd = ⟨#[91, 33, 45, 93]⟩ := by
  have key : ∀ k ∈ kindL, (k = ⟨#[k.cps.getD 0 0]⟩ ∧ (esPlain (k.cps.getD 0 0) = true ∨ k.cps.getD 0 0 = 32 ∨ k.cps.getD 0 0 = 45) ∧ partK k = escN (k.cps.getD 0 0) ∧ ¬ ((k == Str.ofString "*") = true) ∧ ¬ ((k == Str.ofString "?") = true) ∧ ¬ ((k == Str.ofString "[") = true) ∧ k ≠ ⟨#[42]⟩) ∨ k = ⟨#[42]⟩ ∨ k = ⟨#[63]⟩ ∨ k = ⟨#[91, 34, 93]⟩ ∨ k = ⟨#[91, 33, 97, 93]⟩ ∨ k = ⟨#[91, 33, 34, 93]⟩ ∨ k = ⟨#[91, 115, 116, 93]⟩ ∨ k = ⟨#[91, 33, 45, 93]⟩ := by decide +kernel
  rcases key kd h with ⟨h1, h2⟩ | h
  · generalize kd.cps.getD 0 0 = n at h1 h2
    subst h1
    exact .inl ⟨n, rfl, h2⟩
  · exact .inr h
noncomputable def tlIf : List Stmt := (prts (nthS (fdOf 10).2.1 3)).2.1.drop 2
noncomputable abbrev tlV3 (x : Str) (t1 t3 : Tok) (st R B : Addr) (i ln : Int) (ti tn : Tok) (c : Str) (tc : Tok) : List (Str × Value) := [(Str.ofString "pat", .str x t1), (Str.ofString "STAR", .ref st), (Str.ofString "QUESTION_MARK", .str (Str.ofString ".") t3), (Str.ofString "res", .ref R), (Str.ofString "add", .ref B), (Str.ofString "i", .int i ti), (Str.ofString "n", .int ln tn), (Str.ofString "c", .str c tc)]
noncomputable def TlNext (gb : Heap) (L R B st : Addr) (x : Str) (t1 t3 : Tok) (k : Nat) (ps : List (Option Str)) (i ln : Int) (s : Shared) (Q : Flow → Shared → Prop) : Prop :=
  ∀ h' tk' gs' ps' ti tn m' n' vs', Fr gb L h' m' → Has m' [(Str.ofString "pat", .str x t1), (Str.ofString "STAR", .ref st), (Str.ofString "QUESTION_MARK", .str (Str.ofString ".") t3), (Str.ofString "res", .ref R), (Str.ofString "add", .ref B), (Str.ofString "i", .int i ti), (Str.ofString "n", .int ln tn)] →
    News gb L h' [(R, W.listOf (List.toArray vs') n'), ((82 : Addr), tabObj ps'), (B, boundApp R)] → TriplesOk ps'.toList → AllBare gs' → 0 < tk' → Parts st vs' ps → vs'.length ≤ k → Q .next { s with heap := h', toks := tk', gens := gs' }
set_option maxHeartbeats 4000000 in
theorem tl_turn {w : World} {gb : Heap} {L : Addr} {s : Shared} {x kd : Str} {nn : Nat} {t1 t3 ti tn tc : Tok} {st R B : Addr} {dn : List Str} {vs : List Value} {n : Nat} {ps : Array Value} {i : Nat} {m : Str → Option Value} {Q : Flow → Shared → Prop}
    (GB : GoodT w gb) (F : Fr gb L s.heap (over (tlV3 x t1 t3 st R B ((i : Int) + 1) x.length ti tn ⟨#[nn]⟩ tc) m))
    (N : News gb L s.heap [(R, W.listOf vs.toArray n), ((82 : Addr), tabObj ps), (B, boundApp R)]) (htr : TriplesOk ps.toList) (hB7 : AllBare s.gens) (htk : 0 < s.toks) (hvz : vs.length ≤ 10) (hR : @LT.lt Nat _ 82 R) (hB : @LT.lt Nat _ R B) (l82 : @LT.lt Nat _ 82 L)
    (hlen : x.length ≤ 1000) (hkd : kd ∈ kindL) (hn : kd.cps[0]? = some nn) (hxl : (i : Int) + kd.length ≤ x.length)
    (hit : ∀ (d n : Nat), kd.cps[d]? = some n → Txt.item x ((i : Int) + d) = ⟨#[n]⟩)
    (hsl : ∀ (d e : Nat) (a b : Int) (c : Str), a = (i : Int) + d → b = (i : Int) + e → d ≤ e → e ≤ kd.cps.size → (⟨kd.cps.extract d e⟩ : Str) = c → Txt.slice x (some a) (some b) = c)
    (hP : Parts st vs (partsOf dn)) (hdn : partsOf (dn ++ [kd]) = addPart (partsOf dn) kd)
    (h : TlNext gb L R B st x t1 t3 (vs.length + 1) (partsOf (dn ++ [kd])) ((i : Int) + kd.length) x.length s Q) :
    wpAny (model pw w) ((A0 650).deeper (envOf (Str.ofString "_translate") tlScope L 87 (.ref 86))) (execs tlIf (envOf (Str.ofString "_translate") tlScope L 87 (.ref 86))) Q NoE s := by
  conv in (occs := *) tlScope => all_goals whnf
  conv in tlIf => whnf
  refine wp_id' ?_
  have X := GB.X
  obtain ⟨p, loose, mg, mb, T, bmn⟩ := GB.T
  have Gd := GB.good
  rcases kind_cases hkd with ⟨nn', rfl, hnn, hpk, hq1, hq2, hq3, hq4⟩ | rfl | rfl | hkb
  · obtain rfl : nn' = nn := Option.some.inj hn
    k_steps
    exact h _ _ _ _ _ _ _ _ _ (by assumption) ⟨rfl, rfl, rfl, rfl, rfl, rfl, rfl, trivial⟩ (by assumption) htr hB7 (by assumption) (parts_next hP hdn hq4 hpk) (by simp)
  · obtain rfl : 42 = nn := Option.some.inj hn
    rw [addPart, if_pos rfl] at hdn
    rcases hP.last with ⟨rfl, hp0⟩ | ⟨vs', ps', rfl, hp0⟩ | ⟨vs', ps', pz, tz, rfl, hp0⟩
    · k_steps
      rw [hp0, if_neg (by simp)] at hdn
      exact h _ _ _ _ _ _ _ _ _ (by assumption) ⟨rfl, rfl, rfl, rfl, rfl, rfl, rfl, trivial⟩ (by assumption) htr hB7 (by assumption) (by rw [hdn]; exact .star .nil) (by simp)
    · have hvq : (vs' ++ [Value.ref st]).length ≤ 100 := by omega
      k_steps
      · exact absurd (show (vs' ++ [Value.ref st]).isEmpty = true by assumption) (by simp)
      rw [hp0, if_pos (by simp)] at hdn
      exact h _ _ _ _ _ _ _ _ _ (by assumption) ⟨rfl, rfl, rfl, rfl, rfl, rfl, rfl, trivial⟩ (by assumption) htr hB7 (by assumption) (by rw [hdn, ← hp0]; exact hP) (by omega)
    · have hvq : (vs' ++ [Value.str pz tz]).length ≤ 100 := by omega
      k_steps
      · exact absurd (show (vs' ++ [Value.str pz tz]).isEmpty = true by assumption) (by simp)
      rw [hp0, if_neg (by simp)] at hdn
      exact h _ _ _ _ _ _ _ _ _ (by assumption) ⟨rfl, rfl, rfl, rfl, rfl, rfl, rfl, trivial⟩ (by assumption) htr hB7 (by assumption) (by rw [hdn, ← hp0]; exact hP.snoc_star) (by simp)
  · obtain rfl : 63 = nn := Option.some.inj hn
    k_steps
    exact h _ _ _ _ _ _ _ _ _ (by assumption) ⟨rfl, rfl, rfl, rfl, rfl, rfl, rfl, trivial⟩ (by assumption) htr hB7 (by assumption) (parts_next hP hdn (by decide) (by decide)) (by simp)
  · have hz : kd.cps[0]? = some 91 ∧ kd ≠ ⟨#[42]⟩ := by rcases hkb with rfl | rfl | rfl | rfl | rfl <;> decide
    obtain rfl : 91 = nn := Option.some.inj (hz.1.symm.trans hn)
    k_steps
    unfold ExStop
    rename Fr _ _ _ _ => F'
    rename News _ _ _ _ => N'
    refine tl_br GB (Fr.over (l := tlV x t1 t3 st R B ((i : Int) + 1) x.length ti tn) F' ⟨rfl, rfl, rfl, rfl, rfl, rfl, rfl, trivial⟩) N' htr hB7 (by show @LT.lt Nat _ 0 _; (try dsimp only); first | assumption | omega) hvz hR hB l82 hlen hkb hxl hit hsl ?_
    clear F' N'
    intro h8 tk8 gs8 ps8 tz tiz tnz m8 n8 F8 Hm8 N8 htr8 hb8 htk8
    k_steps
    exact h _ _ _ _ _ _ _ _ _ F8 Hm8 N8 htr8 hb8 htk8 (parts_next hP hdn hz.2 rfl) (by simp)
end Mine
end
example : True := by first | walk1 | trivial
section
open PySem PySem.W PyProof.Rows PySem.Calls
namespace Mine
local macro_rules | `(tactic| walk_at "z") => `(tactic| first | (with_reducible show wpAny _ _ _ _ _ _) | (with_reducible intro _; intros; try dsimp only) | k_asm | k_mem | with_unfolding_all rfl | omega | exact Nat.le_of_ble_eq_true rfl | decide | (dsimp only; omega))
local macro_rules | `(tactic| walk_at "getAttr ref") => `(tactic| (k_here; apply gaR <;> walk_at "z"))
local macro_rules | `(tactic| walk_at "subscriptTail Name Name str int") => `(tactic| (apply item_cT <;> walk_at "z"))
local macro_rules | `(tactic| walk_at "execs cons") => `(tactic| (refine execs_tk (by walk_at "z") ?_; (try k_fold)))
local macro_rules | `(tactic| walk_at "execs cons") => `(tactic| ((with_reducible show wpAny _ _ (execs [Stmt.If (PySem.Expr.Compare (PySem.Expr.Name _ _) _ _ _) _ _ _] _) _ _ _); (try dsimp only); refine ex_stop ?_))
noncomputable def TlJ (x : Str) (st R B : Addr) (t1 t3 : Tok) (ks : List Str) (k : Nat) (m : Str → Option Value) (news : List (Addr × Obj)) : Prop :=
  ∃ (dn td : List Str) (vs : List Value) (n i : Nat) (ps : Array Value) (ti tn : Tok), ks = dn ++ td ∧ k = td.length ∧ i = (cat dn).length ∧ Parts st vs (partsOf dn) ∧ vs.length ≤ dn.length ∧ TriplesOk ps.toList ∧
    news = [(R, W.listOf vs.toArray n), ((82 : Addr), tabObj ps), (B, boundApp R)] ∧
    Has m [(Str.ofString "pat", .str x t1), (Str.ofString "STAR", .ref st), (Str.ofString "QUESTION_MARK", .str (Str.ofString ".") t3), (Str.ofString "res", .ref R), (Str.ofString "add", .ref B), (Str.ofString "i", .int (i : Int) ti), (Str.ofString "n", .int (x.length : Int) tn)]
set_option maxHeartbeats 4000000 in
theorem tl_ct {w : World} {x : Str} {t1 t3 : Tok} {st : Addr} {ks : List Str} (hx : x = cat ks) (hks : ∀ k ∈ ks, k ∈ kindL) (hn : ks.length ≤ 10) (hlen : x.length ≤ 1000) : CtT w 650 87 [.str x t1, .ref st, .str (Str.ofString ".") t3] (fun _ => True)
    (fun v h h' => ∃ R vs n, v = .ref R ∧ h.get? R = none ∧ h'.get? R = some (W.listOf (List.toArray vs) n) ∧ Parts st vs (partsOf ks)) := by
  intro A s E h1 hd hu GT hTab hBare htk hpre
  refine wp_up h1 hd hu ?_
  clear h1 hd hu A
  have X := GT.X
  obtain ⟨p, loose, mg, mb, T, bmn⟩ := GT.T
  refine wpAny_call ?_
  k_dflt (refine' call_plain_ret (binds := [(PySem.Str.ofString "pat", .str x t1), (PySem.Str.ofString "STAR", .ref st), (PySem.Str.ofString "QUESTION_MARK", .str (Str.ofString ".") t3)]) ?k8 ?ho ?hd ?hl ?hcd ?hb ?hloc ?_ ?c1 ?c2 ?c3 ?c4; (case ho => exact X 87 _ (by k_is)); (case hd => exact rfl); (case k8 => exact Nat.le_of_ble_eq_true rfl); (case hl => exact T.nolimit); (case hcd => exact codeRec_of X (by k_is)); (case hb => exact rfl); (case hloc => exact locs rfl); (case c1 => exact rfl); (case c2 => exact rfl); (case c3 => exact rfl); (case c4 => decide); k_whole)
  intro h₁ F0
  clear X T bmn p loose mg mb
  have l82 : @LT.lt Nat _ 82 s.heap.objs.size := by obtain ⟨ps, hps, _⟩ := hTab; exact Heap.lt_size hps
  obtain ⟨gb, ps0, gk1, gk2, GB, ht0, gsz, gfr⟩ := ghostT GT hTab
  obtain ⟨F, N⟩ := gfr _ _ _ F0
  clear F0 gfr GT
  have X := GB.X
  obtain ⟨p, loose, mg, mb, T, bmn⟩ := GB.T
  have C86 := code86 X
  have R68 := repat X
  dsimp only
  generalize s.heap.objs.size = L at F N l82 gsz ⊢
  generalize htk0 : s.toks + _ = tk0
  replace htk0 : 0 < tk0 := by omega
  (try k_fold)
  refine cutp (α := {R : Addr // @LT.lt Nat _ 82 R}) ?g101 ?L101 ?l101 ?n101 ?t101 ?h101a ?h101b
  case g101 => exact gb
  case L101 => exact L
  case l101 => exact fun R => [(Str.ofString "pat", .str x t1), (Str.ofString "STAR", .ref st), (Str.ofString "QUESTION_MARK", .str (Str.ofString ".") t3), (Str.ofString "res", .ref R.1)]
  case n101 => exact fun R => [(R.1, W.listOf #[] 0), ((82 : Addr), tabObj ps0)]
  case t101 => assumption
  · k_steps
    exact Nx.mk ⟨_, by assumption⟩ rfl (by assumption) ⟨rfl, rfl, rfl, rfl, trivial⟩ (by assumption) (fun _ h => h)
  rintro ⟨R, hR⟩ h2 tk2 m2 F2 N2 htk2
  clear F N
  dsimp only at F2 N2 ⊢
  refine cutp (α := {B : Addr // @LT.lt Nat _ R B}) ?g102 ?L102 ?l102 ?n102 ?t102 ?h102a ?h102b
  case g102 => exact gb
  case L102 => exact L
  case l102 => exact fun B => [(Str.ofString "pat", .str x t1), (Str.ofString "STAR", .ref st), (Str.ofString "QUESTION_MARK", .str (Str.ofString ".") t3), (Str.ofString "res", .ref R), (Str.ofString "add", .ref B.1)]
  case n102 => exact fun B => [(R, W.listOf #[] 0), ((82 : Addr), tabObj ps0), (B.1, boundApp R)]
  case t102 => assumption
  · k_steps
    refine Nx.mk ⟨_, by assumption⟩ rfl (by assumption) ⟨rfl, rfl, rfl, rfl, rfl, trivial⟩ (by assumption) (fun _ h => ?_)
    simp only [List.mem_cons, List.not_mem_nil, or_false] at h ⊢
    rcases h with h | h | h <;> simp [h]
  rintro ⟨B, hB⟩ h3 tk3 m3 F3 N3 htk3
  clear F2 N2
  dsimp only at F3 N3 ⊢
  refine cutp (α := Tok × Tok) ?g103 ?L103 ?l103 ?n103 ?t103 ?h103a ?h103b
  case g103 => exact gb
  case L103 => exact L
  case l103 => exact fun t => [(Str.ofString "pat", .str x t1), (Str.ofString "STAR", .ref st), (Str.ofString "QUESTION_MARK", .str (Str.ofString ".") t3), (Str.ofString "res", .ref R), (Str.ofString "add", .ref B), (Str.ofString "i", .int ((0 : Nat) : Int) t.1), (Str.ofString "n", .int (x.length : Int) t.2)]
  case n103 => exact fun _ => [(R, W.listOf #[] 0), ((82 : Addr), tabObj ps0), (B, boundApp R)]
  case t103 => assumption
  · k_steps
    exact Nx.mk (_, _) rfl (by assumption) ⟨rfl, rfl, rfl, rfl, rfl, rfl, rfl, trivial⟩ (by assumption) (fun _ h => List.mem_cons_of_mem _ h)
  rintro ⟨ti0, tn0⟩ h4 tk4 m4 F4 N4 htk4
  clear F3 N3
  dsimp only at F4 N4 ⊢
  refine cutG (α := {a : List Value × Nat × Array Value × Tok × Tok // Parts st a.1 (partsOf ks) ∧ TriplesOk a.2.2.1.toList}) ?g5 ?L5 ?l5 ?n5 ?h5a ?h5b
  case g5 => exact gb
  case L5 => exact L
  case l5 => exact fun a => [(Str.ofString "pat", .str x t1), (Str.ofString "STAR", .ref st), (Str.ofString "QUESTION_MARK", .str (Str.ofString ".") t3), (Str.ofString "res", .ref R), (Str.ofString "add", .ref B), (Str.ofString "i", .int (x.length : Int) a.1.2.2.2.1), (Str.ofString "n", .int (x.length : Int) a.1.2.2.2.2)]
  case n5 => exact fun a => [(R, W.listOf a.1.1.toArray a.1.2.1), ((82 : Addr), tabObj a.1.2.2.1), (B, boundApp R)]
  · refine wpAny_While ?_
    refine whileG (g := gb) (L := L) (TlJ x st R B t1 t3 ks) ks.length F4 N4 ⟨[], ks, [], 0, 0, ps0, ti0, tn0, rfl, rfl, rfl, .nil, Nat.le_refl _, ht0, rfl, ⟨rfl, rfl, rfl, rfl, rfl, rfl, rfl, trivial⟩⟩ htk4 hBare ?_
    rintro k m₁ news₁ h7 tk7 gs7 ⟨dn, td, vs, n, i, ps, ti, tn, hdt, rfl, hi, hP, hvl, htr, rfl, Hm⟩ F7 N7 htk7 hB7
    rw [← Hm.over] at F7
    clear F4 N4 Hm
    k_steps
    have hdl : dn.length ≤ 10 := by rw [hdt, List.length_append] at hn; omega
    have hvz : vs.length ≤ 10 := by omega
    cases td with
    | nil =>
      have hxl : (i : Int) = (x.length : Int) := by rw [hx, hdt, List.append_nil, hi]
      rw [show decide ((i : Int) < (x.length : Int)) = false from decide_eq_false (by omega)]
      refine WTestG.false ?_
      (try k_fold)
      k_steps
      refine ⟨rfl, ⟨(vs, n, ps, ti, tn), by rw [hdt, List.append_nil]; exact hP, htr⟩, _, _, _, _, rfl, Fr.over (by assumption) ⟨rfl, rfl, rfl, rfl, rfl, by rw [← hxl]; rfl, rfl, trivial⟩, by assumption, hB7⟩
    | cons kd td =>
      have hxe : x = cat dn ++ (kd ++ cat td) := by rw [hx, hdt, cat_append]; rfl
      have hxl : (i : Int) + kd.length + (cat td).length = (x.length : Int) := by rw [hxe, Str.length_append, Str.length_append, hi]; omega
      have hit : ∀ (d n : Nat), kd.cps[d]? = some n → Txt.item x ((i : Int) + d) = ⟨#[n]⟩ := fun d n h => by rw [hxe, hi]; exact item_mid h
      have hsl : ∀ (d e : Nat) (a b : Int) (c : Str), a = (i : Int) + d → b = (i : Int) + e → d ≤ e → e ≤ kd.cps.size → (⟨kd.cps.extract d e⟩ : Str) = c → Txt.slice x (some a) (some b) = c := fun d e a b c ha hb h1 h2 h3 => by rw [hxe, ha, hb, hi, ← h3]; exact slice_mid h1 h2
      have hkd : kd ∈ kindL := hks kd (by rw [hdt]; simp)
      have hdn : partsOf (dn ++ [kd]) = addPart (partsOf dn) kd := by simp [partsOf]
      have hcat : (cat (dn ++ [kd])).length = i + kd.length := by rw [cat_append, Str.length_append, ← hi]; show _ + (kd ++ ⟨#[]⟩ : Str).length = _; rw [Str.length_append]; rfl
      have hdt' : ks = (dn ++ [kd]) ++ td := by rw [hdt]; simp
      have hk1 : ∃ nn, kd.cps[0]? = some nn ∧ 1 ≤ kd.length := by rcases kind_cases hkd with ⟨nn, rfl, _⟩ | rfl | rfl | rfl | rfl | rfl | rfl | rfl <;> exact ⟨_, rfl, Nat.le_of_ble_eq_true rfl⟩
      obtain ⟨nn, hnn, hk0⟩ := hk1
      have c0 : Txt.item x (i : Int) = ⟨#[nn]⟩ := by rw [show (i : Int) = (i : Int) + ((0 : Nat) : Int) by omega]; exact hit 0 nn hnn
      rw [show decide ((i : Int) < (x.length : Int)) = true from decide_eq_true (by omega)]
      refine WTestG.true ?_
      (try k_fold)
      k_steps
      unfold ExStop
      rename Fr _ _ _ _ => F'
      rename News _ _ _ _ => N'
      refine tl_turn GB (Fr.over (l := tlV3 x t1 t3 st R B ((i : Int) + 1) x.length _ tn ⟨#[nn]⟩ _) F' ⟨rfl, rfl, rfl, rfl, rfl, rfl, rfl, rfl, trivial⟩) N' htr hB7 (by show @LT.lt Nat _ 0 _; (try dsimp only); first | assumption | omega) hvz hR hB l82 hlen hkd hnn (by omega) hit hsl hP hdn ?_
      clear F' N'
      intro h8 tk8 gs8 ps8 tz tnz m8 n8 vs8 F8 Hm8 N8 htr8 hb8 htk8 hP8 hv8
      k_steps
      exact WTurnG.next td.length (Nat.lt_succ_self _) rfl F8 N8 hb8 ⟨dn ++ [_], td, _, _, i + kd.length, _, _, _, hdt', rfl, hcat.symm, hP8, by simp; omega, htr8, rfl, Hm8⟩
  rintro ⟨⟨vs, n, ps, ti, tn⟩, hP, htr⟩ h8 tk8 gs8 m8 F8 N8 hB8
  clear F4 N4
  (try dsimp only at F8 N8 hP htr ⊢)
  k_steps
  show RetT _ _ _ _
  have hRn : s.heap.get? R = none := by
    cases q : s.heap.get? R with
    | none => rfl
    | some o =>
      have e1 := gk2 R o (neN (Nat.ne_of_gt hR)) q
      rw [(N8 _ (.head _)).2.2] at e1
      cases e1
  refine ⟨⟨_, _, _, rfl, fun b o hb e => Fr.keep (by assumption) b o (gk2 b o hb e), ⟨ps, (News.get (by assumption) (.tail _ (.head _))), htr⟩, hB8⟩, R, vs, n, rfl, hRn, News.get (by assumption) (.head _), hP⟩
end Mine
end
example : True := by first | walk1 | trivial
section
open PySem PySem.W PyProof.Rows PySem.Calls
namespace Mine
theorem isNoS {prog : Program} {w : World} {A : Around} {E : Value → Shared → Prop} {s : Shared} {x : Str} {t : Tok} {a : Addr} {Q : Value → Shared → Prop} (h : Q (.bool false) s) : wpAny (model prog w) A (compareOp .Is (.str x t) (.ref a)) Q E s := wpAny_is_other (by rfl) (by intro x; cases x) h
local macro_rules | `(tactic| walk_at "d") => `(tactic| first | assumption | decide | decide +kernel)
local macro_rules | `(tactic| walk_at "z") => `(tactic| first | (with_reducible show wpAny _ _ _ _ _ _) | (with_reducible intro _; intros; try dsimp only) | k_asm | k_mem | with_unfolding_all rfl | omega | exact Nat.le_of_ble_eq_true rfl | decide | is_list | (dsimp only; omega))
local macro_rules | `(tactic| walk_at "ite") => `(tactic| first | refine ite_yes (by walk_at "d") ?_ | refine ite_no (by walk_at "d") ?_)
local macro_rules | `(tactic| walk_at "exec If") => `(tactic| refine wpAny_If ?_)
local macro_rules | `(tactic| walk_at "call ref") => `(tactic| ((apply st_use <;> walk_at "z"); try k_fold))
local macro_rules | `(tactic| walk_at "call builtin:str.replace") => `(tactic| apply replC <;> walk_at "z")
local macro_rules | `(tactic| walk_at "compareOp Is") => `(tactic| (k_here; first | apply isNoS | (refine wpAny_is_self (by rfl) ?_)))
local macro_rules | `(tactic| walk_at "execs cons") => `(tactic| (refine execs_tk (by walk_at "z") ?_; (try k_fold)))
local macro_rules | `(tactic| walk_at "forall") => `(tactic| (intro hkp; (try dsimp only at hkp); (try dsimp only)))
noncomputable def PartOk (p : Str) : Prop := 1 ≤ p.length ∧ p.length ≤ 10 ∧ (soP p).length ≤ 10 ∧ ((Txt.item p 0 == Str.ofString "[") = true → 2 ≤ p.length ∧ (Txt.replace p (Str.ofString "\\") (Str.ofString "")).length ≤ 10)
theorem partOk {k : Str} (h : k ∈ kindL) (hk : k ≠ ⟨#[42]⟩) : PartOk (partK k) :=
  (by decide +kernel : ∀ k ∈ kindL, k ≠ ⟨#[42]⟩ → (1 ≤ (partK k).length ∧ (partK k).length ≤ 10 ∧ (soP (partK k)).length ≤ 10 ∧ ((Txt.item (partK k) 0 == Str.ofString "[") = true → 2 ≤ (partK k).length ∧ (Txt.replace (partK k) (Str.ofString "\\") (Str.ofString "")).length ≤ 10))) k h hk
theorem parts_ok {ks : List Str} (hks : ∀ k ∈ ks, k ∈ kindL) : ∀ p, some p ∈ partsOf ks → PartOk p := by
  have key : ∀ (ks : List Str) (ps : List (Option Str)), (∀ k ∈ ks, k ∈ kindL) → (∀ p, some p ∈ ps → PartOk p) → ∀ p, some p ∈ ks.foldl addPart ps → PartOk p := by
    intro ks
    induction ks with
    | nil => intro ps _ h; exact h
    | cons k r ih =>
      intro ps hk h
      refine ih (addPart ps k) (fun k' hk' => hk k' (.tail _ hk')) fun p hp => ?_
      unfold addPart at hp
      by_cases e : k = ⟨#[42]⟩
      · rw [if_pos e] at hp
        split at hp
        · exact h p hp
        · rcases List.mem_append.mp hp with hp | hp
          · exact h p hp
          · cases List.mem_singleton.mp hp
      · rw [if_neg e] at hp
        rcases List.mem_append.mp hp with hp | hp
        · exact h p hp
        · cases List.mem_singleton.mp hp
          exact partOk (hk k (.head _)) e
  exact key ks [] hks fun p hp => by cases hp
theorem tkTurn_le {x : Str} {q : Option Str} {ps : List Nat} (h : ∀ n ∈ ps, n ≤ x.length) (hx : x.length ≤ 1000) (hl : ps.length ≤ 1001) : (∀ n ∈ tkTurn x q ps, n ≤ x.length) ∧ (tkTurn x q ps).length ≤ 1001 := by
  cases q with
  | some p => exact ⟨stepN_le.1, Nat.le_trans stepN_le.2 hl⟩
  | none =>
    cases ps with
    | nil => refine And.intro ?_ (Nat.zero_le _); intro n hn; cases hn
    | cons a r =>
      refine ⟨fun n hn => ?_, ?_⟩
      · obtain ⟨k, hk, rfl⟩ := List.mem_map.mp hn
        have := List.mem_range.mp hk
        show a + k ≤ x.length
        omega
      · show (List.map _ _).length ≤ _
        rw [List.length_map, List.length_range]; omega
theorem tkPlaces_le {x : Str} (hx : x.length ≤ 1000) (qs : List (Option Str)) : (∀ n ∈ tkPlaces x qs, n ≤ x.length) ∧ (tkPlaces x qs).length ≤ 1001 := by
  have key : ∀ (qs : List (Option Str)) (ps : List Nat), (∀ n ∈ ps, n ≤ x.length) → ps.length ≤ 1001 → (∀ n ∈ qs.foldl (fun ps q => tkTurn x q ps) ps, n ≤ x.length) ∧ (qs.foldl (fun ps q => tkTurn x q ps) ps).length ≤ 1001 := by
    intro qs
    induction qs with
    | nil => intro ps h hl; exact ⟨h, hl⟩
    | cons i r ih => intro ps h hl; exact ih _ (tkTurn_le h hx hl).1 (tkTurn_le h hx hl).2
  exact key qs [0] (fun n hn => by rw [List.mem_singleton.mp hn]; exact Nat.zero_le _) (Nat.le_of_ble_eq_true rfl)
theorem tkPlaces_next {x : Str} {qs : List (Option Str)} {i : Nat} {q : Option Str} (h : qs[i]? = some q) : tkPlaces x (qs.take (i + 1)) = tkTurn x q (tkPlaces x (qs.take i)) := by
  unfold tkPlaces
  rw [List.take_add_one, h, List.foldl_append]
  rfl
theorem Parts.at {st : Addr} {vs qs} (h : Parts st vs qs) : ∀ (i : Nat) (v : Value), vs[i]? = some v → (v = .ref st ∧ qs[i]? = some none) ∨ (∃ p t, v = .str p t ∧ qs[i]? = some (some p)) := by
  induction h with
  | nil => intro i v hv; cases hv
  | star _ ih =>
    intro i v hv
    cases i with
    | zero => cases hv; exact .inl ⟨rfl, rfl⟩
    | succ i => exact ih i v hv
  | txt _ ih =>
    intro i v hv
    cases i with
    | zero => cases hv; exact .inr ⟨_, _, rfl, rfl⟩
    | succ i => exact ih i v hv
theorem tk_step {x p so : Str} {b : Bool} {ns : List Nat} {vs : List Value} (h1 : soP p = so) (h2 : baP p = b) (h : Nats vs (stepN x so b ns)) : Nats vs (tkTurn x (some p) ns) := by
  show Nats vs (stepN x (soP p) (baP p) ns)
  rw [h1, h2]
  exact h
noncomputable def NvT (g : Heap) (L : Addr) (m : Str → Option Value) (st : Addr) (ks : List Str) (news : List (Addr × Obj)) (s : Shared) (v : Value) (s' : Shared) : Prop :=
  ∃ R vs n h tk gs ps, v = .ref R ∧ s' = { s with heap := h, toks := tk, gens := gs } ∧ Fr g L h m ∧ News g L h ((R, W.listOf (List.toArray vs) n) :: ((82 : Addr), tabObj ps) :: news) ∧ TriplesOk ps.toList ∧ AllBare gs ∧ 0 < tk ∧ Parts st vs (partsOf ks)
theorem tlN {w : World} {x : Str} {t1 t3 : Tok} {st : Addr} {ks : List Str} (hx : x = cat ks) (hks : ∀ k ∈ ks, k ∈ kindL) (hn : ks.length ≤ 10) (hlen : x.length ≤ 1000)
    {A : Around} {g : Heap} {L : Addr} {s : Shared} {m : Str → Option Value} {news : List (Addr × Obj)} {ps : Array Value} {Q : Value → Shared → Prop} {E : Value → Shared → Prop}
    (h1 : A.handled = none) (h2 : A.depth ≤ 650) (h3 : A.units ≤ 650) (F : Fr g L s.heap m) (N : News g L s.heap (((82 : Addr), tabObj ps) :: news)) (hne : ∀ p ∈ news, @Ne Nat p.1 82) (G : GoodT w g) (ht : TriplesOk ps.toList) (hb : AllBare s.gens) (htk : 0 < s.toks)
    (h : ∀ R vs n h' tk' gs' ps', Parts st vs (partsOf ks) → Fr g L h' m → News g L h' ((R, W.listOf (List.toArray vs) n) :: ((82 : Addr), tabObj ps') :: news) → TriplesOk ps'.toList → AllBare gs' → 0 < tk' → Q (.ref R) { s with heap := h', toks := tk', gens := gs' }) :
    wpAny (model pw w) A (call (.ref 87) [.str x t1, .ref st, .str (Str.ofString ".") t3]) Q E s :=
  ctT_use (tl_ct hx hks hn hlen) h1 h2 h3 F N hne G ht hb htk fun v h' tk' gs' ps' hp hk F' N' ht' hb' htk' => by
    obtain ⟨R, vs, n, rfl, hRn, hRg, hP⟩ := hp
    exact h R vs n h' tk' gs' ps' hP F' (news_new F N' hRn hRg) ht' hb' htk'
theorem tsub {a b : Addr × Obj} {own r : List (Addr × Obj)} (h1 : a ∈ r := by simp) (h2 : b ∈ r := by simp) (h3 : ∀ p ∈ own, p ∈ r := by simp +contextual) : ∀ p ∈ [a, b] ++ own, p ∈ r := fun p hp => by
  rcases List.mem_append.mp hp with hp | hp
  · rcases List.mem_cons.mp hp with rfl | hp
    · exact h1
    · rw [List.mem_singleton.mp hp]; exact h2
  · exact h3 p hp
theorem toff {D I : Addr} {o1 o2 : Obj} (h1 : @LT.lt Nat _ I D) (h2 : @LT.lt Nat _ 82 I) : ∀ p ∈ [(D, o1), ((82 : Addr), o2)], p.1 ∉ [I] := fun p hp hm => by
  rcases List.mem_cons.mp hp with rfl | hp
  · exact absurd (List.mem_singleton.mp hm) (Ne.symm (Nat.ne_of_lt h1))
  · rw [List.mem_singleton.mp hp] at hm
    exact absurd (List.mem_singleton.mp hm) (Nat.ne_of_lt h2)
theorem tk_end {x : Str} {t2 : Tok} {st : Addr} {ks : List Str} {g : Heap} {L I : Addr} {own rest : List (Addr × Obj)} {R : Result → Shared → Prop} {s s₃ : Shared} {i : Nat} {h' : Heap} {tk' : Nat} {m' : Str → Option Value} {oI : Obj} {D : Addr} {vs' : List Value} {n' : Nat} {ps3 : Array Value}
    (e : s₃ = { s with heap := h', toks := tk' }) (F : Fr g L h' m') (N : News g L h' ((D, W.listOf vs'.toArray n') :: rest)) (ne : ∀ p ∈ rest, p.1 ≠ D) (hI : (I, oI) ∈ rest) (h82 : ((82 : Addr), tabObj ps3) ∈ rest) (hown : ∀ p ∈ own, p ∈ rest) (h2 : @LT.lt Nat _ 82 I)
    (H : Has m' [(Str.ofString "text", .str x t2), (Str.ofString "star", .ref st), (Str.ofString "places", .ref D)]) (hn : Nats vs' (tkPlaces x ((partsOf ks).take (i + 1)))) :
    TurnP g L [I] own (fun i m' news' => ∃ P ps n, Has m' [(Str.ofString "text", .str x t2), (Str.ofString "star", .ref st), (Str.ofString "places", .ref P)] ∧ news' = [(P, W.listOf ps.toArray n), ((82 : Addr), tabObj ps3)] ∧ Nats ps (tkPlaces x ((partsOf ks).take i))) R s i .next s₃ :=
  TurnP.next [(D, W.listOf vs'.toArray n'), ((82 : Addr), tabObj ps3)] e F N (tsub (.head _) (.tail _ h82) fun p hp => .tail _ (hown p hp)) (fun p hp hm => by
    rcases List.mem_cons.mp hp with rfl | hp
    · exact ne _ hI (List.mem_singleton.mp hm).symm
    · rw [List.mem_singleton.mp hp] at hm
      exact absurd (List.mem_singleton.mp hm) (Nat.ne_of_lt h2)) ⟨D, vs', n', H, rfl, hn⟩
set_option maxHeartbeats 4000000 in
theorem tk_ct {w : World} {pat x : Str} {t1 t2 : Tok} {ks : List Str} (hx : pat = cat ks) (hks : ∀ k ∈ ks, k ∈ kindL) (hn : ks.length ≤ 10) (hlp : pat.length ≤ 1000) (hlen : x.length ≤ 1000) : CtT w 640 165 [.str pat t1, .str x t2] (fun _ => True)
    (fun v h h' => v = .bool ((tkPlaces x (partsOf ks)).contains x.length)) := by
  intro A s E h1 hd hu GT hTab hBare htk hpre
  refine wp_up h1 hd hu ?_
  clear h1 hd hu A
  have X := GT.X
  obtain ⟨p, loose, mg, mb, T, bmn⟩ := GT.T
  refine wpAny_call ?_
  k_dflt (refine' call_plain_ret (binds := [(PySem.Str.ofString "pattern", .str pat t1), (PySem.Str.ofString "text", .str x t2)]) ?k8 ?ho ?hd ?hl ?hcd ?hb ?hloc ?_ ?c1 ?c2 ?c3 ?c4; (case ho => exact X 165 _ (by k_is)); (case hd => exact rfl); (case k8 => exact Nat.le_of_ble_eq_true rfl); (case hl => exact T.nolimit); (case hcd => exact codeRec_of X (by k_is)); (case hb => exact rfl); (case hloc => exact locs rfl); (case c1 => exact rfl); (case c2 => exact rfl); (case c3 => exact rfl); (case c4 => decide); k_whole)
  intro h₁ F0
  clear X T bmn p loose mg mb
  have l82 : @LT.lt Nat _ 82 s.heap.objs.size := by obtain ⟨ps, hps, _⟩ := hTab; exact Heap.lt_size hps
  obtain ⟨gb, ps0, gk1, gk2, GB, ht0, gsz, gfr⟩ := ghostT GT hTab
  obtain ⟨F, N⟩ := gfr _ _ _ F0
  clear F0 gfr GT
  have X := GB.X
  obtain ⟨p, loose, mg, mb, T, bmn⟩ := GB.T
  have C86 := code86 X
  have R68 := repat X
  dsimp only
  generalize s.heap.objs.size = L at F N l82 gsz ⊢
  generalize htk0 : s.toks + _ = tk0
  replace htk0 : 0 < tk0 := by omega
  (try k_fold)
  refine cutp (α := {a : Addr × Addr × Tok // @LT.lt Nat _ 82 a.1 ∧ @LT.lt Nat _ 82 a.2.1}) ?g201 ?L201 ?l201 ?n201 ?t201 ?h201a ?h201b
  case g201 => exact gb
  case L201 => exact L
  case l201 => exact fun a => [(Str.ofString "pattern", .str pat t1), (Str.ofString "text", .str x t2), (Str.ofString "star", .ref a.1.1), (Str.ofString "places", .ref a.1.2.1)]
  case n201 => exact fun a => [((82 : Addr), tabObj ps0), (a.1.2.1, W.listOf #[.int 0 a.1.2.2] 0)]
  case t201 => assumption
  · k_steps
    refine Nx.mk ⟨(_, _, tk0 + 1), ?hq1, ?hq2⟩ rfl (by assumption) ⟨rfl, rfl, rfl, rfl, trivial⟩ (by assumption) ?hq3
    case hq1 => (try dsimp only); omega
    case hq2 => (try dsimp only); omega
    case hq3 =>
      intro _ h
      rcases List.mem_cons.mp h with h | h
      · rw [h]; simp
      · rw [List.mem_singleton.mp h]; exact .tail _ (.head _)
  rintro ⟨⟨st, P0, tz⟩, hst, hP0⟩ h2 tk2 m2 F2 N2 htk2
  clear F N
  dsimp only at F2 N2 hst hP0 ⊢
  refine cutG (α := {a : Addr × List Value × Nat × Array Value // Nats a.2.1 (tkPlaces x (partsOf ks)) ∧ TriplesOk a.2.2.2.toList}) ?g5 ?L5 ?l5 ?n5 ?h5a ?h5b
  case g5 => exact gb
  case L5 => exact L
  case l5 => exact fun a => [(Str.ofString "text", .str x t2), (Str.ofString "places", .ref a.1.1)]
  case n5 => exact fun a => [(a.1.1, W.listOf a.1.2.1.toArray a.1.2.2.1), ((82 : Addr), tabObj a.1.2.2.2)]
  · refine wpAny_For ?_
    refine wpAny_mono (show wpAny _ _ _ (NvT gb L (over [(Str.ofString "pattern", .str pat t1), (Str.ofString "text", .str x t2), (Str.ofString "star", .ref st), (Str.ofString "places", .ref P0)] m2) st ks [(P0, W.listOf #[.int 0 tz] 0)] { s with heap := h2, toks := tk2 }) NoE { s with heap := h2, toks := tk2 } from ?_) (fun v s' hv => ?_) fun _ _ x => x
    · k_steps
      refine tlN hx hks hn hlp rfl (Nat.le_of_ble_eq_true rfl) (Nat.le_of_ble_eq_true rfl) F2 N2 (fun p hp => ?_) GB ht0 hBare (by show @LT.lt Nat _ 0 _; (try dsimp only); omega) ?_
      · rw [List.mem_singleton.mp hp]; exact neN (by omega)
      · intro R vs n h' tk' gs' ps' a1 a2 a3 a4 a5 a6
        exact ⟨R, vs, n, h', tk', gs', ps', rfl, rfl, a2, a3, a4, a5, a6, a1⟩
    clear F2 N2
    obtain ⟨R, vs, nR, h3, tk3, gs3, ps3, rfl, rfl, F3, N3, htr3, hb3, htk3, hPt⟩ := hv
    (try dsimp only)
    have hlR : h3.IsList R vs.toArray := ⟨_, (N3 _ (.head _)).1, rfl, _, rfl⟩
    refine wpAny_pyIter_list hlR ?_
    have hk5 : ∀ b o, h3.get? b = some o → (h3.push { cls := .type "list_iterator", data := .fields #[.ref R, .int 0 0] }).get? b = some o := fun b o e => Heap.get?_push_of_some _ e
    have F5 := Fr.kept F3 hk5
    have N5 := News.kept N3 hk5
    have hit5 : (h3.push { cls := .type "list_iterator", data := .fields #[.ref R, .int 0 0] }).IsListIter h3.objs.size R 0 := ⟨_, Heap.get?_push_size _ rfl, rfl, rfl⟩
    have hl5 : (h3.push { cls := .type "list_iterator", data := .fields #[.ref R, .int 0 0] }).IsList R vs.toArray := hlR.at fun o e => hk5 _ o e
    have hR4 : @LT.lt Nat _ R h3.objs.size := Heap.lt_size (N3 _ (.head _)).1
    have hP4 : @LT.lt Nat _ P0 h3.objs.size := Heap.lt_size (N3 _ (.tail _ (.tail _ (.head _)))).1
    have h824 : @LT.lt Nat _ 82 h3.objs.size := Heap.lt_size (N3 _ (.tail _ (.head _))).1
    have hL4 : @LT.lt Nat _ L h3.objs.size := F3.ns.lt
    have hRL : @Ne Nat R L := (N3 _ (.head _)).2.1
    have hnew4 : gb.get? h3.objs.size = none := by
      cases q : gb.get? h3.objs.size with
      | none => rfl
      | some o => exact absurd (Heap.lt_size (F3.keep _ _ q)) (Nat.lt_irrefl _)
    clear hk5 hlR F3 N3
    dsimp only at F5 N5 hit5 hl5 hR4 hP4 h824 hL4 hnew4 ⊢
    generalize h3.push _ = h5 at F5 N5 hit5 hl5 ⊢
    generalize h3.objs.size = I2 at hit5 hR4 hP4 h824 hL4 hnew4 ⊢
    refine forT (g := gb) (L := L) (news := [(P0, W.listOf #[.int 0 tz] 0), ((82 : Addr), tabObj ps3)]) ((Src.list rfl I2 R (neN (by omega)) vs.toArray).alive listIter_alive)
      (fun i m' news' => ∃ P ps n, Has m' [(Str.ofString "text", .str x t2), (Str.ofString "star", .ref st), (Str.ofString "places", .ref P)] ∧ news' = [(P, W.listOf ps.toArray n), ((82 : Addr), tabObj ps3)] ∧ Nats ps (tkPlaces x ((partsOf ks).take i)))
      (by exact off2 (neN (by omega)) (fun e => hRL e.symm)) (by exact one_none hnew4) (fun p hp => ?_) ⟨hit5, hl5⟩ F5 (fun p hp => ?_)
      ⟨P0, [.int 0 tz], 0, ⟨rfl, rfl, rfl, trivial⟩, rfl, Nats.cons (n := 0) (t := tz) .nil⟩ htk3 ?_ ?_
    · rcases List.mem_cons.mp hp with rfl | hp
      · intro hm; exact absurd (List.mem_singleton.mp hm) (Nat.ne_of_lt hP4)
      · rw [List.mem_singleton.mp hp]; intro hm; exact absurd (List.mem_singleton.mp hm) (Nat.ne_of_lt h824)
    · rcases List.mem_cons.mp hp with rfl | hp
      · exact N5 _ (.tail _ (.tail _ (.head _)))
      · rw [List.mem_singleton.mp hp]; exact N5 _ (.tail _ (.head _))
    · intro i v m₁ news₁ h tk1 own hlt hP hJ hnw hown F N htk1
      obtain ⟨P, ps, n, Hm, rfl, hps⟩ := hJ
      rw [← Hm.over] at F
      clear F5 N5
      obtain ⟨hP, oI, hoI⟩ := hP
      have hv := hPt.at i v (by simpa using hP)
      have hI2L : I2 ≠ L := neN (by omega)
      replace N := news_more N hoI hnew4 hI2L
      refine wp_tk' htk1 (asg1 F N rfl rfl fun h4 tk4 F4 N4 htk4 => ?_)
      clear F N
      simp only [List.cons_append, List.nil_append] at N4
      dsimp only at F4 N4 htk4 ⊢
      have Gd := GB.good
      generalize hQ : tkPlaces x ((partsOf ks).take i) = pl0 at hps
      have hML := tkPlaces_le hlen ((partsOf ks).take i)
      rw [hQ] at hML
      rcases hv with ⟨rfl, hq⟩ | ⟨p, tp, rfl, hq⟩
      · rcases hps with _ | @⟨z, tz, ps, ns, hps'⟩
        · k_steps
          refine TurnP.next [(_, W.listOf #[] 0), ((82 : Addr), tabObj ps3)] rfl (by assumption) (by assumption) ?hsub ?hoff ⟨_, [], 0, ⟨rfl, rfl, rfl, trivial⟩, rfl, ?hnat⟩
          case hsub => exact tsub
          case hoff => exact toff (by omega) h824
          case hnat => rw [tkPlaces_next hq, hQ]; exact .nil
        · have hI := (Nats.cons (n := z) (t := tz) hps').ints
          simp only [List.map_cons] at hI
          have hNN : Nats (Value.int (↑z) tz :: ps) (z :: ns) := Nats.cons hps'
          have hz : z ≤ x.length := hML.1 z (.head _)
          have hpl : (Value.int (↑z) tz :: ps).length ≤ 1001 := by rw [hNN.length]; exact hML.2
          k_steps
          · exfalso; simp_all
          · rename_i rgX F9 N9 K9
            refine kll_range (n := ((x.length : Int) + 1 - (z : Int)).toNat) rfl F9 N9 (show IsRange _ _ (z : Int) _ 1 _ _ _ from rgX) (small_one (by omega) (by omega) (by omega) (by omega)) (rangeSize_nat _ _) (by omega) fun D us c h9 tk9 F10 N10 l10 hI10 => ?_
            (try dsimp only)
            k_steps
            refine TurnP.next [(D, W.listOf us.toArray c), ((82 : Addr), tabObj ps3)] rfl (by assumption) (by assumption) tsub ?_ ⟨D, us, c, ⟨rfl, rfl, rfl, trivial⟩, rfl, ?_⟩
            · exact toff (l10 (I2, oI) (by simp)) h824
            · rw [tkPlaces_next hq, hQ]
              refine nats_range ?_
              rw [show x.length + 1 - z = ((x.length : Int) + 1 - (z : Int)).toNat by omega]
              exact hI10
      · have hok := parts_ok hks p (List.mem_of_getElem? hq)
        obtain ⟨hp1, hp2, hso, hbr⟩ := hok
        have hp3 : p.length ≤ 1000 := by omega
        have hnl : pl0.length ≤ 2000 := by omega
        have hpl : ps.length ≤ 1001 := by rw [hps.length]; exact hML.2
        have hE : (Str.ofString "").length ≤ 1000 := Nat.le_of_ble_eq_true rfl
        have hso' : (soP p).length ≤ 1000 := by omega
        have hbv : baP p = (if (Txt.item p 0 == Str.ofString "[") = true then Txt.item p 1 == Str.ofString "^" else p == Str.ofString ".") := rfl
        have hsv : soP p = (if (Txt.item p 0 == Str.ofString "[") = true then Txt.slice (Txt.replace p (Str.ofString "\\") (Str.ofString "")) (some (if (Txt.item p 1 == Str.ofString "^") = true then 2 else 1)) (some (-1)) else if (p == Str.ofString ".") = true then Str.ofString "" else Txt.item p (-1)) := rfl
        by_cases hb : (Txt.item p 0 == Str.ofString "[") = true
        · obtain ⟨hp4, hq5⟩ := hbr hb
          rw [if_pos hb] at hbv hsv
          have c0 : Txt.item p 0 = Str.ofString "[" := eq_of_beq hb
          generalize hr : Txt.replace p (Str.ofString "\\") (Str.ofString "") = q at hq5 hsv
          have hq6 : q.length ≤ 1000 := by omega
          by_cases hc : (Txt.item p 1 == Str.ofString "^") = true
          · rw [if_pos hc] at hsv
            have c1 : Txt.item p 1 = Str.ofString "^" := eq_of_beq hc
            have s1l : (Txt.slice q (some 2) (some (-1))).length ≤ 1000 := by rw [← hsv]; exact hso'
            k_steps
            refine tk_end rfl (by assumption) (by assumption) (by assumption) (oI := oI) (by simp) (by simp) (by simp +contextual) h824 ⟨rfl, rfl, rfl, trivial⟩ ?_
            rw [tkPlaces_next hq, hQ]
            exact tk_step hsv hbv (by assumption)
          · rw [if_neg hc] at hsv
            have s1l : (Txt.slice q (some 1) (some (-1))).length ≤ 1000 := by rw [← hsv]; exact hso'
            k_steps
            refine tk_end rfl (by assumption) (by assumption) (by assumption) (oI := oI) (by simp) (by simp) (by simp +contextual) h824 ⟨rfl, rfl, rfl, trivial⟩ ?_
            rw [tkPlaces_next hq, hQ]
            exact tk_step hsv hbv (by assumption)
        · rw [if_neg hb] at hbv hsv
          by_cases hc : (p == Str.ofString ".") = true
          · rw [if_pos hc] at hsv
            k_steps
            refine tk_end rfl (by assumption) (by assumption) (by assumption) (oI := oI) (by simp) (by simp) (by simp +contextual) h824 ⟨rfl, rfl, rfl, trivial⟩ ?_
            rw [tkPlaces_next hq, hQ]
            exact tk_step hsv hbv (by assumption)
          · rw [if_neg hc] at hsv
            have s1l : (Txt.item p (-1)).length ≤ 1000 := by rw [← hsv]; exact hso'
            k_steps
            refine tk_end rfl (by assumption) (by assumption) (by assumption) (oI := oI) (by simp) (by simp) (by simp +contextual) h824 ⟨rfl, rfl, rfl, trivial⟩ ?_
            rw [tkPlaces_next hq, hQ]
            exact tk_step hsv hbv (by assumption)
    · intro m₁ news₁ h tk1 hJ F N htk1
      obtain ⟨P, ps, n, Hm, rfl, hps⟩ := hJ
      refine wpAny_execs_nil ?_
      exact ⟨rfl, ⟨(P, ps, n, ps3), by rw [List.size_toArray, hPt.length, List.take_length] at hps; exact hps, htr3⟩, h, tk1, gs3, _, rfl, Fr.over F ⟨Hm.1, Hm.2.2.1, trivial⟩, N, hb3⟩
  rintro ⟨⟨P9, ps9, n9, q9⟩, hps9, htr9⟩ h9 tk9 gs9 m9 F9 N9 hb9
  clear F2 N2
  (try dsimp only at F9 N9 hps9 htr9 ⊢)
  have hI9 := hps9.ints
  have hML9 := tkPlaces_le hlen (partsOf ks)
  have hl9 : ps9.length ≤ 1001 := by rw [hps9.length]; exact hML9.2
  k_steps
  show RetT _ _ _ _
  exact ⟨⟨_, _, _, rfl, fun b o hb e => Fr.keep (by assumption) b o (gk2 b o hb e), ⟨q9, (News.get (by assumption) (.tail _ (.head _))), htr9⟩, hb9⟩, congrArg Value.bool (any_cast _ _)⟩
end Mine
end
section
open PySem PySem.W PyProof.Rows
namespace Mine
theorem u0 {n m : Nat} (h : n + 8 ≤ m) : n < m := by omega
theorem u1 {n m : Nat} (h : n + 8 ≤ m) : n + 1 < m := by omega
theorem u2 {n m : Nat} (h : n + 8 ≤ m) : n + 1 + 1 < m := by omega
open SeqAt in
theorem rc_refs {A : Around} {s : Shared} {a b : Addr} {xs ys : List Value} (hl : s.heap.IsList a xs.toArray) (hb : s.heap.IsList b ys.toArray) (hu : A.units < cLine) (h : P2 (fun v w => EqAt A.in1 s v w true) xs ys) : RcAt A s (.ref a) (.ref b) true := by
  have k := RcAt.lists (A := A) (s := s) (e := fun _ => true) hl hb (by rw [List.size_toArray, List.size_toArray, h.len]) hu (fun j h1 h2 => by
    have h1' : j < xs.length := by simpa using h1
    obtain ⟨w, hw, hk⟩ := h.at j xs[j] (List.getElem?_eq_getElem h1')
    have h2' : j < ys.length := by simpa using h2
    rw [List.getElem?_eq_getElem h2'] at hw
    have hw' : ys[j] = w := by simpa using hw
    subst hw'
    simpa using hk)
  have e2 : (List.range xs.toArray.size).all (fun _ => true) = true := List.all_eq_true.mpr fun _ _ => rfl
  rwa [e2] at k
open SeqAt in
theorem eq_refs {A : Around} {s : Shared} {a b : Addr} {xs ys : List Value} (hl : s.heap.IsList a xs.toArray) (hb : s.heap.IsList b ys.toArray) (hu : A.units < cLine) (h : P2 (fun v w => EqAt A.in1 s v w true) xs ys) : EqAt A s (.ref a) (.ref b) true := by
  by_cases e : a = b
  · subst e; exact EqAt.same _
  · exact EqAt.of_refs e (rc_refs hl hb hu h)
open SeqAt in
theorem eq_rd {A : Around} {g : Heap} {L : Addr} {s : Shared} {pre news : List (Addr × Obj)} (N : News g L s.heap news) (hs : ∀ p ∈ pre, p ∈ news) (hu : A.units < cLine) {v w : Value} {r : Rd} (h1 : RdIn pre v r) (h2 : RdIn pre w r) : EqAt A s v w true := by
  have st : ∀ (A : Around) (x : Str) (t u : Tok), EqAt A s (.str x t) (.str x u) true := fun A x t u => by
    have := MeetsSeq.EqGives.at (SeqRoads2.EqGives.str x x t u) A s
    rwa [beq_self_eq_true] at this
  cases r with
  | word x =>
    obtain ⟨_, t, rfl⟩ := h1
    obtain ⟨_, u, rfl⟩ := h2
    exact st _ _ _ _
  | pair a b =>
    obtain ⟨_, _, p, t1, t2, o, rfl, hm, l⟩ := h1
    obtain ⟨_, _, q, u1, u2, o', rfl, hm', l'⟩ := h2
    exact eq_refs (xs := [_, _]) (ys := [_, _]) (l.isList N (hs _ hm)) (l'.isList N (hs _ hm')) hu (.cons (st _ _ _ _) (.cons (st _ _ _ _) .nil))
theorem P2.join {α β γ : Type} {R : α → γ → Prop} {S : β → γ → Prop} {T : α → β → Prop} (k : ∀ a b c, R a c → S b c → T a b) {l : List α} {r : List γ} (h1 : P2 R l r) : ∀ {m : List β}, P2 S m r → P2 T l m := by
  induction h1 with
  | nil => intro m h2; cases h2; exact .nil
  | cons x _ ih =>
    intro m h2
    cases h2 with
    | cons y h2 => exact .cons (k _ _ _ x y) (ih h2)
noncomputable def pk (p : Rd → Bool) (l : List (Value × Rd)) : List Value := l.filterMap fun q => if p q.2 = true then some q.1 else none
theorem pk_p2 {R S : Value → Rd → Prop} {T : Value → Value → Prop} {p : Rd → Bool} (k : ∀ a b c, R a c → S b c → T a b) {l : List Value} {r : List Rd} (h1 : P2 R l r) : ∀ {m : List Value}, P2 S m r → P2 T (pk p (l.zip r)) (pk p (m.zip r)) := by
  induction h1 with
  | nil => intro m h2; cases h2; exact .nil
  | @cons a c l r x _ ih =>
    intro m h2
    cases h2 with
    | @cons b _ m _ y h2 =>
      have i := ih h2
      show P2 T (pk p ((a, c) :: l.zip r)) (pk p ((b, c) :: m.zip r))
      unfold pk at i ⊢
      rw [List.filterMap_cons, List.filterMap_cons]
      by_cases h : p c = true
      · simp only [h, if_true]
        exact .cons (k _ _ _ x y) i
      · simp only [h, if_false]
        exact i
end Mine
end
example : True := by first | walk1 | trivial
section
open PySem PySem.W PyProof.Rows PySem.Calls PySem.P
namespace Mine
theorem ty_str {prog : Program} {w : World} {A : Around} {E : Value → Shared → Prop} {s : Shared} {x : Str} {t : Tok} {Q : Value → Shared → Prop} (h : Q (.type "str") s) : wpAny (model prog w) A (call (.type "type") [.str x t]) Q E s := call_type_of (typeIs_str _ _ _) (by decide +kernel) h
theorem ty_list {prog : Program} {w : World} {A : Around} {E : Value → Shared → Prop} {s : Shared} {a : Addr} {xs : Array Value} {Q : Value → Shared → Prop} (hl : s.heap.IsList a xs) (h : Q (.type "list") s) : wpAny (model prog w) A (call (.type "type") [.ref a]) Q E s := call_type_of (Heap.IsList.typeIs hl) (by decide +kernel) h
theorem is_sl {prog : Program} {w : World} {A : Around} {E : Value → Shared → Prop} {s : Shared} {Q : Value → Shared → Prop} (h : Q (.bool false) s) : wpAny (model prog w) A (compareOp .Is (.type "str") (.type "list")) Q E s := wpAny_is_other (by rfl) (by intro x; exact absurd (Value.type.inj x) (by decide)) h
theorem is_ll {prog : Program} {w : World} {A : Around} {E : Value → Shared → Prop} {s : Shared} {Q : Value → Shared → Prop} (h : Q (.bool true) s) : wpAny (model prog w) A (compareOp .Is (.type "list") (.type "list")) Q E s := wpAny_is_self (by rfl) h
local macro_rules | `(tactic| walk_at "call type:type") => `(tactic| first | refine ty_str ?_ | refine ty_list (by assumption) ?_)
local macro_rules | `(tactic| walk_at "compareOp Is") => `(tactic| first | refine is_sl ?_ | refine is_ll ?_)
theorem pk_snoc {p : Rd → Bool} {l : List (Value × Rd)} {v : Value} {r : Rd} : pk p (l ++ [(v, r)]) = if p r = true then pk p l ++ [v] else pk p l := by
  unfold pk
  rw [List.filterMap_append]
  by_cases h : p r = true
  · simp [h]
  · simp [h]
noncomputable def fdP (ks1 ks2 : List Str) : Rd → Bool
  | .word _ => false
  | .pair a b => (tkPlaces a (partsOf ks1)).contains a.length && (tkPlaces b (partsOf ks2)).contains b.length
noncomputable def FdJ (base : List (Addr × Obj)) (p : Rd → Bool) (q : List (Value × Rd)) (i : Nat) (ys : List Value) (news : List (Addr × Obj)) : Prop :=
  ∃ ps, news = ((82 : Addr), tabObj ps) :: base ∧ TriplesOk ps.toList ∧ ys.length ≤ i ∧ ys = pk p (q.take i)
theorem fd_yes {g h' : Heap} {L : Addr} {m : Str → Option Value} {s : Shared} {tk : Nat} {gs : Array GenState} {base own : List (Addr × Obj)} {p : Rd → Bool} {q : List (Value × Rd)} {ys : List Value} {i : Nat} {I C D : Addr} {oC : Obj} {v : Value} {r : Rd} {ps ps0 : Array Value}
    (F' : Fr g L h' m) (N' : News g L h' (((82 : Addr), tabObj ps) :: (C, oC) :: (base ++ own))) (ht : TriplesOk ps.toList) (hoff : ∀ p ∈ ((82 : Addr), tabObj ps0) :: base, ¬ p.1 ∈ [I, C, D]) (hq : q[i]? = some (v, r)) (hp : p r = true) (hlen : ys.length ≤ i) (hy : ys = pk p (q.take i)) (hb : AllBare gs) :
    EndG g L m [I, C, D] ((C, oC) :: own) (FdJ base p q (i + 1) (ys ++ [v])) s { s with heap := h', toks := tk, gens := gs } := by
  exact ⟨h', tk, gs, ((82 : Addr), tabObj ps) :: base, rfl, F', News.sub N' (mfa (.head _) (mfp (fun _ hp => .tail _ (.tail _ (List.mem_append_left _ hp))) (mfa (.tail _ (.head _)) (fun _ hp => .tail _ (.tail _ (List.mem_append_right _ hp)))))), mfa (hoff ((82 : Addr), tabObj ps0) (.head _)) (fun p hp => hoff p (.tail _ hp)), ⟨ps, rfl, ht, by simpa using hlen, by rw [take_snoc hq, pk_snoc, if_pos hp, hy]⟩, hb⟩
theorem fd_no {g h' : Heap} {L : Addr} {m : Str → Option Value} {s : Shared} {tk : Nat} {gs : Array GenState} {base own : List (Addr × Obj)} {p : Rd → Bool} {q : List (Value × Rd)} {ys : List Value} {i : Nat} {I C D : Addr} {oC : Obj} {v : Value} {r : Rd} {ps ps0 : Array Value}
    (F' : Fr g L h' m) (N' : News g L h' (((82 : Addr), tabObj ps) :: (C, oC) :: (base ++ own))) (ht : TriplesOk ps.toList) (hoff : ∀ p ∈ ((82 : Addr), tabObj ps0) :: base, ¬ p.1 ∈ [I, C, D]) (hq : q[i]? = some (v, r)) (hp : ¬ p r = true) (hlen : ys.length ≤ i) (hy : ys = pk p (q.take i)) (hb : AllBare gs) :
    EndG g L m [I, C, D] ((C, oC) :: own) (FdJ base p q (i + 1) ys) s { s with heap := h', toks := tk, gens := gs } := by
  exact ⟨h', tk, gs, ((82 : Addr), tabObj ps) :: base, rfl, F', News.sub N' (mfa (.head _) (mfp (fun _ hp => .tail _ (.tail _ (List.mem_append_left _ hp))) (mfa (.tail _ (.head _)) (fun _ hp => .tail _ (.tail _ (List.mem_append_right _ hp)))))), mfa (hoff ((82 : Addr), tabObj ps0) (.head _)) (fun p hp => hoff p (.tail _ hp)), ⟨ps, rfl, ht, by omega, by rw [take_snoc hq, pk_snoc, if_neg hp, hy]⟩, hb⟩
theorem testNo {prog : Program} {w : World} {A : Around} {cenv : Env} {elt : PySem.Expr} {J1 : Value → Shared → Prop} {J0 : Shared → Prop} {s₃ : Shared} (h : J0 s₃) : TestP prog w A cenv elt J1 J0 false s₃ := h
theorem testYes {prog : Program} {w : World} {A : Around} {cenv : Env} {elt : PySem.Expr} {J1 : Value → Shared → Prop} {J0 : Shared → Prop} {s₃ : Shared} (h : wpAny (model prog w) A (eval elt cenv) J1 NoE s₃) : TestP prog w A cenv elt J1 J0 true s₃ := h
theorem tkN {w : World} {pat x : Str} {t1 t2 : Tok} {ks : List Str} (hx : pat = cat ks) (hks : ∀ k ∈ ks, k ∈ kindL) (hn : ks.length ≤ 5) (hlen : x.length ≤ 1000)
    {A : Around} {g : Heap} {L : Addr} {s : Shared} {m : Str → Option Value} {news : List (Addr × Obj)} {ps : Array Value} {Q : Value → Shared → Prop} {E : Value → Shared → Prop}
    (h1 : A.handled = none) (h2 : A.depth ≤ 640) (h3 : A.units ≤ 640) (F : Fr g L s.heap m) (N : News g L s.heap (((82 : Addr), tabObj ps) :: news)) (hne : ∀ p ∈ news, @Ne Nat p.1 82) (G : GoodT w g) (ht : TriplesOk ps.toList) (hb : AllBare s.gens) (htk : 0 < s.toks)
    (h : ∀ h' tk' gs' ps', (∀ b o, @Ne Nat b 82 → s.heap.get? b = some o → h'.get? b = some o) → Fr g L h' m → News g L h' (((82 : Addr), tabObj ps') :: news) → TriplesOk ps'.toList → AllBare gs' → 0 < tk' → Q (.bool ((tkPlaces x (partsOf ks)).contains x.length)) { s with heap := h', toks := tk', gens := gs' }) :
    wpAny (model pw w) A (call (.ref 165) [.str pat t1, .str x t2]) Q E s :=
  ctT_use (tk_ct hx hks (by omega) (by have := cat_small hks hn; rw [hx]; omega) hlen) h1 h2 h3 F N hne G ht hb htk fun v h' tk' gs' ps' hp hk F' N' ht' hb' htk' => by
    subst hp
    exact h h' tk' gs' ps' hk F' N' ht' hb' htk'
structure LA7 where
  a : Addr
  ps : Array Value
  n : Nat
set_option maxHeartbeats 4000000 in
theorem law_s7 {w : World} {g : Heap} {L fa : Addr} {cd : Value} {s : Shared} {aT aD : Addr} {ts : List Value} {nT : Nat} {pre rest : List (Addr × Obj)} {rds : List Rd} {ks1 ks2 : List Str} {x1 x2 : Str} {t1 t2 : Tok} {m : Str → Option Value} {o4 o5 : Obj} {ps : Array Value} (G : LawG w g) (hb : AllBare s.gens) (ht : 0 < s.toks) (htr : TriplesOk ps.toList)
    (F : Fr g L s.heap (over [(Str.ofString "told", .ref aT), (Str.ofString "due", .ref aD)] m)) (N : News g L s.heap (((82 : Addr), tabObj ps) :: (L + 1 + 1 + 1 + 1 + 1, o5) :: (L + 1 + 1 + 1 + 1, o4) :: (aT, W.listOf ts.toArray nT) :: rest)) (h4 : o4.data = .cell (some (.str x1 t1))) (h5 : o5.data = .cell (some (.str x2 t2)))
    (hs : ∀ p ∈ pre, p ∈ rest) (hpre : Lsts pre) (h82 : ∀ p ∈ (L + 1 + 1 + 1 + 1 + 1, o5) :: (L + 1 + 1 + 1 + 1, o4) :: (aT, W.listOf ts.toArray nT) :: rest, @Ne Nat p.1 82) (hv : P2 (RdIn pre) ts rds) (hn : rds.length ≤ 11) (hx1 : x1 = cat ks1) (hx2 : x2 = cat ks2) (hk1 : ∀ k ∈ ks1, k ∈ kindL) (hk2 : ∀ k ∈ ks2, k ∈ kindL) (hn1 : ks1.length ≤ 5) (hn2 : ks2.length ≤ 5) :
    wpAny (model pw w) (lawA L fa cd) (exec (lawSt 7) (lawE L fa cd)) (NxT (α := LA7) g L (fun a => [(Str.ofString "told", .ref aT), (Str.ofString "due", .ref aD), (Str.ofString "found", .ref a.a)]) (fun a => (a.a, W.listOf (List.toArray (pk (fdP ks1 ks2) (ts.zip rds))) a.n) :: ((82 : Addr), tabObj a.ps) :: (L + 1 + 1 + 1 + 1 + 1, o5) :: (L + 1 + 1 + 1 + 1, o4) :: (aT, W.listOf ts.toArray nT) :: rest) s) NoE s := by
  unfold lawA lawE
  conv in (occs := *) lawScope => all_goals whnf
  conv in lawSt _ => whnf
  refine wp_id ?_
  (try k_fold)
  have X := G.X
  obtain ⟨p, loose, mean, mg, mb, T⟩ := G.T
  have GB := G.good.good
  have GT := G.good
  have TR := topRead_of T
  refine asgCompG g L (over [(Str.ofString "told", .ref aT), (Str.ofString "due", .ref aD)] m) (fun _ _ => True) (fun v m₃ => m₃ (Str.ofString "file") = some v) (FdJ ((L + 1 + 1 + 1 + 1 + 1, o5) :: (L + 1 + 1 + 1 + 1, o4) :: (aT, W.listOf ts.toArray nT) :: rest) (fdP ks1 ks2) (ts.zip rds))
    rfl rfl (by with_unfolding_all rfl) rfl rfl rfl (by decide) rfl (by decide) (fun _ => rfl) (fun C => bind_name rfl rfl) ?_
  k_steps
  have hmT : (aT, W.listOf ts.toArray nT) ∈ ((82 : Addr), tabObj ps) :: (L + 1 + 1 + 1 + 1 + 1, o5) :: (L + 1 + 1 + 1 + 1, o4) :: (aT, W.listOf ts.toArray nT) :: rest := by k_mem
  refine ⟨aT, ts.toArray, _, rfl, F, N, ⟨_, (N _ hmT).1, rfl, _, rfl⟩, (N _ hmT).2.1, ?hsz, hb, ht, ⟨ps, rfl, htr, Nat.le_refl _, rfl⟩, ?hJl, fun _ _ _ _ _ _ _ _ _ => trivial, ?turn, ?fin⟩
  case hsz => have := hv.len; rw [sizeLine_eq, List.size_toArray]; omega
  case hJl => rintro i ys _ ⟨_, _, _, e, _⟩; exact e
  case turn =>
    rintro I C D i v ys _ h tk gs oC m₂ own hlt hi ⟨ps, rfl, htr2, hlen, hP⟩ hoff hC hm F2 N2 hb2 ht2 hown hI hD
    refine turn1 ?_
    (try k_fold)
    replace hi : ts[i]? = some v := by simpa using hi
    obtain ⟨r, hr, hR⟩ := hv.at i v hi
    have hq : (ts.zip rds)[i]? = some (v, r) := List.getElem?_zip_eq_some.mpr ⟨hi, hr⟩
    replace N2 : News g L h (((82 : Addr), tabObj ps) :: (C, oC) :: ((L + 1 + 1 + 1 + 1 + 1, o5) :: (L + 1 + 1 + 1 + 1, o4) :: (aT, W.listOf ts.toArray nT) :: rest ++ own)) := News.sub N2 (mfa (.head _) (mfa (List.mem_append_right _ (.head _)) (mfp (fun _ hp => List.mem_append_left _ (.tail _ hp)) (fun _ hp => List.mem_append_right _ (.tail _ hp)))))
    simp only [List.cons_append, List.nil_append] at N2
    have h8I : @Ne Nat 82 I := fun e => hoff _ (.head _) (by rw [← show (82 : Addr) = I from e]; simp)
    have h8C : @Ne Nat 82 C := fun e => hoff _ (.head _) (by rw [← show (82 : Addr) = C from e]; simp)
    have h8D : @Ne Nat 82 D := fun e => hoff _ (.head _) (by rw [← show (82 : Addr) = D from e]; simp)
    have hneO : ∀ p ∈ (C, oC) :: ((L + 1 + 1 + 1 + 1 + 1, o5) :: (L + 1 + 1 + 1 + 1, o4) :: (aT, W.listOf ts.toArray nT) :: rest ++ own), @Ne Nat p.1 82 := fun p hp => by
      rcases List.mem_cons.mp hp with rfl | hp
      · exact Ne.symm h8C
      · rcases List.mem_append.mp hp with hp | hp
        · exact h82 p hp
        · have := hown p hp
          simp only [List.mem_cons, List.not_mem_nil, or_false] at this
          rcases this with e | e | e
          · rw [show p.1 = I from e]; exact Ne.symm h8I
          · rw [show p.1 = aT from e]; exact h82 (aT, W.listOf ts.toArray nT) (by k_mem)
          · rw [show p.1 = D from e]; exact Ne.symm h8D
    clear F N
    cases r with
    | word x =>
      obtain ⟨_, u, rfl⟩ := hR
      k_steps
      (try dsimp only)
      rename Fr _ _ _ _ => F3
      rename News _ _ _ _ => N3
      exact testNo (fd_no (base := (L + 1 + 1 + 1 + 1 + 1, o5) :: (L + 1 + 1 + 1 + 1, o4) :: (aT, W.listOf ts.toArray nT) :: rest) F3 N3 htr2 hoff hq (fun h => Bool.false_ne_true h) hlen hP hb2)
    | pair a b =>
      obtain ⟨hla, hlb, p, u1, u2, o, rfl, hmp, hl⟩ := hR
      have hlp := hl.isList N2 (.tail _ (.tail _ (.tail _ (.tail _ (.tail _ (List.mem_append_left _ (hs _ hmp)))))))
      have hp8 : @Ne Nat p 82 := ne82 (p := (p, o)) N2 (.head _) (.tail _ (.tail _ (.tail _ (.tail _ (.tail _ (List.mem_append_left _ (hs _ hmp))))))) hl.ne82
      have hfp : fdP ks1 ks2 (.pair a b) = ((tkPlaces a (partsOf ks1)).contains a.length && (tkPlaces b (partsOf ks2)).contains b.length) := rfl
      k_steps
      (try dsimp only)
      rename Fr _ _ _ _ => F3
      rename News _ _ _ _ => N3
      refine tkN hx1 hk1 hn1 hla rfl (Nat.le_of_ble_eq_true rfl) (Nat.le_of_ble_eq_true rfl) F3 N3 hneO GT htr2 hb2 (by show @LT.lt Nat _ 0 _; (try dsimp only); omega) fun h' tk' gs' ps' hk F4 N4 htr4 hb4 htk4 => ?_
      clear F3 N3
      have hlp4 := hlp.at fun o e => hk _ o hp8 e
      clear hlp hk
      (try dsimp only at F4 N4 hlp4 ⊢)
      cases hA : (tkPlaces a (partsOf ks1)).contains a.length
      · k_steps
        (try dsimp only)
        exact testNo (fd_no (base := (L + 1 + 1 + 1 + 1 + 1, o5) :: (L + 1 + 1 + 1 + 1, o4) :: (aT, W.listOf ts.toArray nT) :: rest) F4 N4 htr4 hoff hq (by rw [hfp, hA]; exact Bool.false_ne_true) hlen hP hb4)
      · k_steps
        (try dsimp only)
        rename Fr _ _ _ _ => F5
        rename News _ _ _ _ => N5
        refine tkN hx2 hk2 hn2 hlb rfl (Nat.le_of_ble_eq_true rfl) (Nat.le_of_ble_eq_true rfl) F5 N5 hneO GT htr4 hb4 (by show @LT.lt Nat _ 0 _; (try dsimp only); omega) fun h6 tk6 gs6 ps6 hk6 F6 N6 htr6 hb6 htk6 => ?_
        clear F5 N5 hlp4
        (try dsimp only at F6 N6 ⊢)
        cases hB : (tkPlaces b (partsOf ks2)).contains b.length
        · k_steps
          (try dsimp only)
          exact testNo (fd_no (base := (L + 1 + 1 + 1 + 1 + 1, o5) :: (L + 1 + 1 + 1 + 1, o4) :: (aT, W.listOf ts.toArray nT) :: rest) F6 N6 htr6 hoff hq (by rw [hfp, hA, hB]; exact Bool.false_ne_true) hlen hP hb6)
        · k_steps
          (try dsimp only)
          refine testYes ?_
          (try k_fold)
          k_steps
          (try dsimp only)
          rename Fr _ _ _ _ => F7
          rename News _ _ _ _ => N7
          exact fd_yes (base := (L + 1 + 1 + 1 + 1 + 1, o5) :: (L + 1 + 1 + 1 + 1, o4) :: (aT, W.listOf ts.toArray nT) :: rest) F7 N7 htr6 hoff hq (by rw [hfp, hA, hB]; rfl) hlen hP hb6
  case fin =>
    rintro D h tk gs ys _ ⟨ps, rfl, htr2, hlen, hP⟩ hD F2 N2 hb2 ht2
    clear F N
    have eZ : ts.toArray.size = (ts.zip rds).length := by rw [List.size_toArray, List.length_zip, hv.len, Nat.min_self]
    rw [eZ, List.take_length] at hP
    subst hP
    refine NxT.mk (F := F2) (N := N2) ⟨D, ps, _⟩ rfl ⟨rfl, rfl, rfl, trivial⟩ (fun p hp => hp) ht2 hb2
end Mine
end
example : True := by first | walk1 | trivial
section
open PySem PySem.W PyProof.Rows PySem.Calls PySem.P
namespace Mine
local macro_rules | `(tactic| walk_at "eval ListComp") => `(tactic| refine lc_stop ?_)
local macro_rules | `(tactic| walk_at "call type:type") => `(tactic| first | refine ty_str ?_ | refine ty_list (by assumption) ?_)
local macro_rules | `(tactic| walk_at "compareOp Is") => `(tactic| first | refine is_sl ?_ | refine is_ll ?_)
noncomputable def CmpStop {M : Model} (A : Around) (v w : Value) (Q : Value → Shared → Prop) (E : Value → Shared → Prop) (s : Shared) : Prop := wpAny M A (compareOp .Eq v w) Q E s
theorem cmp_stop {M : Model} {A : Around} {v w : Value} {Q : Value → Shared → Prop} {E : Value → Shared → Prop} {s : Shared} (h : CmpStop (M := M) A v w Q E s) : wpAny M A (compareOp .Eq v w) Q E s := h
local macro_rules | `(tactic| walk_at "compareOp Eq ref ref") => `(tactic| refine cmp_stop ?_)
theorem meN {w : World} {x : Str} {t1 : Tok} {il : Addr} {vs : List Value} {is : List Item} (hlen : x.length ≤ 1000) (hil : is.length ≤ 100)
    {A : Around} {g : Heap} {L : Addr} {s : Shared} {m : Str → Option Value} {news : List (Addr × Obj)} {Q : Value → Shared → Prop} {E : Value → Shared → Prop}
    (h1 : A.handled = none) (h2 : A.depth ≤ 660) (h3 : A.units ≤ 660) (F : Fr g L s.heap m) (N : News g L s.heap news) (G : Good w g) (hl : s.heap.IsList il vs.toArray) (hi : Items s.heap vs is)
    (h : ∀ h' tk', (∀ b o, s.heap.get? b = some o → h'.get? b = some o) → Fr g L h' m → News g L h' news → Q (.bool ((mePlaces x is).contains x.length)) { s with heap := h', toks := tk' }) :
    wpAny (model pw w) A (call (.ref 158) [.ref il, .str x t1]) Q E s :=
  ct_use (me_ct hlen hil) h1 h2 h3 F N G ⟨hl, hi⟩ fun v h' tk' hp hk F' N' => by
    subst hp
    exact h h' tk' hk F' N'
noncomputable def LsJ (base : List (Addr × Obj)) (p : Rd → Bool) (q : List (Value × Rd)) (i : Nat) (ys : List Value) (news : List (Addr × Obj)) : Prop :=
  news = base ∧ ys.length ≤ i ∧ ys = pk p (q.take i)
theorem ls_yes {g h' : Heap} {L : Addr} {m : Str → Option Value} {s : Shared} {tk : Nat} {gs : Array GenState} {base own : List (Addr × Obj)} {p : Rd → Bool} {q : List (Value × Rd)} {ys : List Value} {i : Nat} {I C D : Addr} {oC : Obj} {v : Value} {r : Rd}
    (F' : Fr g L h' m) (N' : News g L h' ((C, oC) :: (base ++ own))) (hoff : ∀ p ∈ base, ¬ p.1 ∈ [I, C, D]) (hq : q[i]? = some (v, r)) (hp : p r = true) (hlen : ys.length ≤ i) (hy : ys = pk p (q.take i)) (hb : AllBare gs) :
    EndG g L m [I, C, D] ((C, oC) :: own) (LsJ base p q (i + 1) (ys ++ [v])) s { s with heap := h', toks := tk, gens := gs } :=
  ⟨h', tk, gs, base, rfl, F', backC N', hoff, ⟨rfl, by simpa using hlen, by rw [take_snoc hq, pk_snoc, if_pos hp, hy]⟩, hb⟩
theorem ls_no {g h' : Heap} {L : Addr} {m : Str → Option Value} {s : Shared} {tk : Nat} {gs : Array GenState} {base own : List (Addr × Obj)} {p : Rd → Bool} {q : List (Value × Rd)} {ys : List Value} {i : Nat} {I C D : Addr} {oC : Obj} {v : Value} {r : Rd}
    (F' : Fr g L h' m) (N' : News g L h' ((C, oC) :: (base ++ own))) (hoff : ∀ p ∈ base, ¬ p.1 ∈ [I, C, D]) (hq : q[i]? = some (v, r)) (hp : ¬ p r = true) (hlen : ys.length ≤ i) (hy : ys = pk p (q.take i)) (hb : AllBare gs) :
    EndG g L m [I, C, D] ((C, oC) :: own) (LsJ base p q (i + 1) ys) s { s with heap := h', toks := tk, gens := gs } :=
  ⟨h', tk, gs, base, rfl, F', backC N', hoff, ⟨rfl, by omega, by rw [take_snoc hq, pk_snoc, if_neg hp, hy]⟩, hb⟩
theorem fdP_me {ks1 ks2 : List Str} (hk1 : ∀ k ∈ ks1, k ∈ kindL) (hk2 : ∀ k ∈ ks2, k ∈ kindL) (a b : Str) : fdP ks1 ks2 (.pair a b) = ((mePlaces a (ks1.map mkItem)).contains a.length && (mePlaces b (ks2.map mkItem)).contains b.length) := by
  show ((tkPlaces a (partsOf ks1)).contains a.length && (tkPlaces b (partsOf ks2)).contains b.length) = _
  rw [tk_me hk1, tk_me hk2]
set_option maxHeartbeats 4000000 in
theorem law_s8 {w : World} {g : Heap} {L fa : Addr} {cd : Value} {s : Shared} {aT aD aFd a1 a2 : Addr} {ts ds vs1 vs2 fd : List Value} {nT nD n1 n2 nFd : Nat} {pre pre1 pre2 rest : List (Addr × Obj)} {rds : List Rd} {ks1 ks2 : List Str} {m : Str → Option Value} {o2 o3 : Obj} {ps : Array Value} (G : LawG w g) (hb : AllBare s.gens) (ht : 0 < s.toks)
    (F : Fr g L s.heap (over [(Str.ofString "told", .ref aT), (Str.ofString "due", .ref aD), (Str.ofString "found", .ref aFd)] m)) (N : News g L s.heap ((L + 1 + 1 + 1, o3) :: (L + 1 + 1, o2) :: (a1, W.listOf vs1.toArray n1) :: (a2, W.listOf vs2.toArray n2) :: (aFd, W.listOf (List.toArray fd) nFd) :: (aT, W.listOf ts.toArray nT) :: (aD, W.listOf ds.toArray nD) :: ((82 : Addr), tabObj ps) :: rest)) (h2 : o2.data = .cell (some (.ref a1))) (h3 : o3.data = .cell (some (.ref a2))) (hfd : fd = pk (fdP ks1 ks2) (ts.zip rds))
    (hs : ∀ p ∈ pre, p ∈ rest) (hs1 : ∀ p ∈ pre1, p ∈ rest) (hs2 : ∀ p ∈ pre2, p ∈ rest) (hv1 : P2 (ItIn pre1) vs1 (ks1.map mkItem)) (hv2 : P2 (ItIn pre2) vs2 (ks2.map mkItem)) (hvT : P2 (RdIn pre) ts rds) (hv : P2 (RdIn pre) ds rds) (hn : rds.length ≤ 11) (hk1 : ∀ k ∈ ks1, k ∈ kindL) (hk2 : ∀ k ∈ ks2, k ∈ kindL) (hn1 : ks1.length ≤ 5) (hn2 : ks2.length ≤ 5) :
    wpAny (model pw w) (lawA L fa cd) (exec (lawSt 8) (lawE L fa cd)) (LawEnd g L s) NoE s := by
  unfold lawA lawE
  conv in (occs := *) lawScope => all_goals whnf
  conv in lawSt _ => whnf
  refine wp_id ?_
  (try k_fold)
  have X := G.X
  obtain ⟨p, loose, mean, mg, mb, T⟩ := G.T
  have GB := G.good.good
  have TR := topRead_of T
  k_steps
  (try dsimp only)
  rename_i lA h0 F9 N9 hlA
  unfold LcStop
  (try k_fold)
  refine compG g L (over [(Str.ofString "told", .ref aT), (Str.ofString "due", .ref aD), (Str.ofString "found", .ref aFd)] m) (fun _ _ => True) (fun v m₃ => m₃ (Str.ofString "file") = some v) (LsJ ((lA, W.listOf #[.ref aT, .ref aFd] 0) :: (L + 1 + 1 + 1, o3) :: (L + 1 + 1, o2) :: (a1, W.listOf vs1.toArray n1) :: (a2, W.listOf vs2.toArray n2) :: (aFd, W.listOf (List.toArray fd) nFd) :: (aT, W.listOf ts.toArray nT) :: (aD, W.listOf ds.toArray nD) :: ((82 : Addr), tabObj ps) :: rest) (fdP ks1 ks2) (ds.zip rds)) rfl rfl (by decide) rfl (by decide) (fun _ => rfl) (fun C => bind_name rfl rfl) ?_
  k_steps
  have hmD : (aD, W.listOf ds.toArray nD) ∈ (lA, W.listOf #[.ref aT, .ref aFd] 0) :: (L + 1 + 1 + 1, o3) :: (L + 1 + 1, o2) :: (a1, W.listOf vs1.toArray n1) :: (a2, W.listOf vs2.toArray n2) :: (aFd, W.listOf (List.toArray fd) nFd) :: (aT, W.listOf ts.toArray nT) :: (aD, W.listOf ds.toArray nD) :: ((82 : Addr), tabObj ps) :: rest := by k_mem
  refine ⟨aD, ds.toArray, _, rfl, F9, N9, ⟨_, (N9 _ hmD).1, rfl, _, rfl⟩, (N9 _ hmD).2.1, ?hsz, hb, ht, ⟨rfl, Nat.le_refl _, rfl⟩, ?hJl, fun _ _ _ _ _ _ _ _ _ => trivial, ?turn, ?fin⟩
  case hsz => have := hv.len; rw [sizeLine_eq, List.size_toArray]; omega
  case hJl => rintro i ys _ ⟨_, e, _⟩; exact e
  case turn =>
    rintro I C D i v ys _ h tk gs oC m₂ own hlt hi ⟨rfl, hlen, hP⟩ hoff hC hm F2 N2 hb2 ht2 hown hI hD
    refine turn1 ?_
    (try k_fold)
    replace hi : ds[i]? = some v := by simpa using hi
    obtain ⟨r, hr, hR⟩ := hv.at i v hi
    have hq : (ds.zip rds)[i]? = some (v, r) := List.getElem?_zip_eq_some.mpr ⟨hi, hr⟩
    replace N2 := ledC N2
    simp only [List.cons_append, List.nil_append] at N2
    clear F9 N9
    cases r with
    | word x =>
      obtain ⟨_, u, rfl⟩ := hR
      k_steps
      (try dsimp only)
      rename Fr _ _ _ _ => F3
      rename News _ _ _ _ => N3
      exact testNo (ls_no (base := (lA, W.listOf #[.ref aT, .ref aFd] 0) :: (L + 1 + 1 + 1, o3) :: (L + 1 + 1, o2) :: (a1, W.listOf vs1.toArray n1) :: (a2, W.listOf vs2.toArray n2) :: (aFd, W.listOf (List.toArray fd) nFd) :: (aT, W.listOf ts.toArray nT) :: (aD, W.listOf ds.toArray nD) :: ((82 : Addr), tabObj ps) :: rest) F3 N3 hoff hq (fun h => Bool.false_ne_true h) hlen hP hb2)
    | pair a b =>
      obtain ⟨hla, hlb, p, u1, u2, o, rfl, hmp, hl⟩ := hR
      have hlp := hl.isList N2 (show (p, o) ∈ _ from .tail _ (.tail _ (.tail _ (.tail _ (.tail _ (.tail _ (.tail _ (.tail _ (.tail _ (.tail _ (List.mem_append_left _ (hs _ hmp))))))))))))
      have hfp := fdP_me hk1 hk2 a b
      k_steps
      (try dsimp only)
      rename Fr _ _ _ _ => F3
      rename News _ _ _ _ => N3
      refine meN hla (by rw [List.length_map]; omega) rfl (Nat.le_of_ble_eq_true rfl) (Nat.le_of_ble_eq_true rfl) F3 N3 GB ⟨_, (N3 (a1, W.listOf vs1.toArray n1) (by k_mem)).1, rfl, _, rfl⟩ (items_of N3 (fun p hp => .tail _ (.tail _ (.tail _ (.tail _ (.tail _ (.tail _ (.tail _ (.tail _ (.tail _ (.tail _ (List.mem_append_left _ (hs1 p hp)))))))))))) hv1) fun h' tk' hk F4 N4 => ?_
      clear F3 N3
      have hlp4 := hlp.at fun o e => hk _ o e
      clear hlp hk
      (try dsimp only at F4 N4 hlp4 ⊢)
      cases hA : (mePlaces a (ks1.map mkItem)).contains a.length
      · k_steps
        (try dsimp only)
        exact testNo (ls_no (base := (lA, W.listOf #[.ref aT, .ref aFd] 0) :: (L + 1 + 1 + 1, o3) :: (L + 1 + 1, o2) :: (a1, W.listOf vs1.toArray n1) :: (a2, W.listOf vs2.toArray n2) :: (aFd, W.listOf (List.toArray fd) nFd) :: (aT, W.listOf ts.toArray nT) :: (aD, W.listOf ds.toArray nD) :: ((82 : Addr), tabObj ps) :: rest) F4 N4 hoff hq (by rw [hfp, hA]; exact Bool.false_ne_true) hlen hP hb2)
      · k_steps
        (try dsimp only)
        rename Fr _ _ _ _ => F5
        rename News _ _ _ _ => N5
        refine meN hlb (by rw [List.length_map]; omega) rfl (Nat.le_of_ble_eq_true rfl) (Nat.le_of_ble_eq_true rfl) F5 N5 GB ⟨_, (N5 (a2, W.listOf vs2.toArray n2) (by k_mem)).1, rfl, _, rfl⟩ (items_of N5 (fun p hp => .tail _ (.tail _ (.tail _ (.tail _ (.tail _ (.tail _ (.tail _ (.tail _ (.tail _ (.tail _ (List.mem_append_left _ (hs2 p hp)))))))))))) hv2) fun h6 tk6 hk6 F6 N6 => ?_
        clear F5 N5 hlp4
        (try dsimp only at F6 N6 ⊢)
        cases hB : (mePlaces b (ks2.map mkItem)).contains b.length
        · k_steps
          (try dsimp only)
          exact testNo (ls_no (base := (lA, W.listOf #[.ref aT, .ref aFd] 0) :: (L + 1 + 1 + 1, o3) :: (L + 1 + 1, o2) :: (a1, W.listOf vs1.toArray n1) :: (a2, W.listOf vs2.toArray n2) :: (aFd, W.listOf (List.toArray fd) nFd) :: (aT, W.listOf ts.toArray nT) :: (aD, W.listOf ds.toArray nD) :: ((82 : Addr), tabObj ps) :: rest) F6 N6 hoff hq (by rw [hfp, hA, hB]; exact Bool.false_ne_true) hlen hP hb2)
        · k_steps
          (try dsimp only)
          refine testYes ?_
          (try k_fold)
          k_steps
          (try dsimp only)
          rename Fr _ _ _ _ => F7
          rename News _ _ _ _ => N7
          exact ls_yes (base := (lA, W.listOf #[.ref aT, .ref aFd] 0) :: (L + 1 + 1 + 1, o3) :: (L + 1 + 1, o2) :: (a1, W.listOf vs1.toArray n1) :: (a2, W.listOf vs2.toArray n2) :: (aFd, W.listOf (List.toArray fd) nFd) :: (aT, W.listOf ts.toArray nT) :: (aD, W.listOf ds.toArray nD) :: ((82 : Addr), tabObj ps) :: rest) F7 N7 hoff hq (by rw [hfp, hA, hB]; rfl) hlen hP hb2
  case fin =>
    clear F9 N9
    rintro D h tk gs ys _ ⟨rfl, hlen, hP⟩ hD F N hb2 ht2
    have eZ : ds.toArray.size = (ds.zip rds).length := by rw [List.size_toArray, List.length_zip, hv.len, Nat.min_self]
    rw [eZ, List.take_length] at hP
    k_steps
    (try dsimp only)
    rename_i lB hB F5 N5 hlB
    unfold CmpStop
    have hu : (callerA.deeper (envOfC (Str.ofString "law") lawScope L fa cd)).units + 8 ≤ cLine := Nat.le_of_ble_eq_true rfl
    have hsP : ∀ p ∈ pre, p ∈ (lB, W.listOf #[.ref aD, .ref D] 0) :: (D, LCg.lst ys) :: (lA, W.listOf #[.ref aT, .ref aFd] 0) :: (L + 1 + 1 + 1, o3) :: (L + 1 + 1, o2) :: (a1, W.listOf vs1.toArray n1) :: (a2, W.listOf vs2.toArray n2) :: (aFd, W.listOf (List.toArray fd) nFd) :: (aT, W.listOf ts.toArray nT) :: (aD, W.listOf ds.toArray nD) :: ((82 : Addr), tabObj ps) :: rest := fun p hp => .tail _ (.tail _ (.tail _ (.tail _ (.tail _ (.tail _ (.tail _ (.tail _ (.tail _ (.tail _ (.tail _ (hs p hp)))))))))))
    have lst : ∀ {a : Addr} {xs : List Value} {n : Nat}, (a, W.listOf xs.toArray n) ∈ (lB, W.listOf #[.ref aD, .ref D] 0) :: (D, LCg.lst ys) :: (lA, W.listOf #[.ref aT, .ref aFd] 0) :: (L + 1 + 1 + 1, o3) :: (L + 1 + 1, o2) :: (a1, W.listOf vs1.toArray n1) :: (a2, W.listOf vs2.toArray n2) :: (aFd, W.listOf (List.toArray fd) nFd) :: (aT, W.listOf ts.toArray nT) :: (aD, W.listOf ds.toArray nD) :: ((82 : Addr), tabObj ps) :: rest → hB.IsList a xs.toArray := fun hm => ⟨_, (N5 _ hm).1, rfl, _, rfl⟩
    refine rc_refs (xs := [.ref aT, .ref aFd]) (ys := [.ref aD, .ref D]) (lst (n := 0) (by k_mem)) (lst (n := 0) (by k_mem)) (u0 hu) (.cons (eq_refs (xs := ts) (ys := ds) (lst (n := nT) (by k_mem)) (lst (n := nD) (by k_mem)) (u1 hu) ?_) (.cons (eq_refs (xs := fd) (ys := ys) (lst (n := nFd) (by k_mem)) (lst (n := ys.length) (by k_mem)) (u1 hu) ?_) .nil)) _ _ _ _ ?_
    · exact P2.join (R := RdIn pre) (S := RdIn pre) (fun a b c h1 h2 => eq_rd N5 hsP (u2 hu) h1 h2) hvT hv
    · rw [hfd, hP]
      exact pk_p2 (R := RdIn pre) (S := RdIn pre) (fun a b c h1 h2 => eq_rd N5 hsP (u2 hu) h1 h2) hvT hv
    · exact ⟨rfl, hB, tk, gs, _, ps, rfl, F5, News.sub N5 (mfa (by k_mem) mfe), hb2⟩
end Mine
end
section
open PySem PySem.W PyProof.Rows
namespace Mine
theorem lo82 {xs : Array Value} {n : Nat} : ∀ ys, W.listOf xs n ≠ tabObj ys := (LstO.of (xs := xs) (n := n)).ne82
theorem ne82s {g h : Heap} {L : Addr} {news X : List (Addr × Obj)} {ps : Array Value} (N : News g L h news) (h82 : ((82 : Addr), tabObj ps) ∈ news) (hk : ∀ p ∈ X, p ∈ news ∧ ∀ xs, p.2 ≠ tabObj xs) : ∀ p ∈ X, @Ne Nat p.1 82 :=
  fun p hp => ne82 N h82 (hk p hp).1 (hk p hp).2
theorem law_body_is : lawBS.1 = [lawSt 0, lawSt 1, lawSt 2, lawSt 3, lawSt 4, lawSt 5, lawSt 6, lawSt 7, lawSt 8] := rfl
set_option maxHeartbeats 4000000 in
theorem law_walk {w : World} {g : Heap} {L fa : Addr} {cd : Value} {s : Shared} {al : Addr} {vs : List Value} {zs : List Int} {m : Str → Option Value} {o1 o2 o3 o4 o5 : Obj} {c1 c2 c3 c4 c5 : Option Value} (G : LawG w g) (hb : AllBare s.gens)
    (F : Fr g L s.heap (over [(Str.ofString "script", .ref al)] m)) (N : News g L s.heap [(L + 1 + 1 + 1 + 1 + 1, o5), (L + 1 + 1 + 1 + 1, o4), (L + 1 + 1 + 1, o3), (L + 1 + 1, o2), (L + 1, o1), ((82 : Addr), tabObj #[])])
    (d1 : o1.data = .cell c1) (d2 : o2.data = .cell c2) (d3 : o3.data = .cell c3) (d4 : o4.data = .cell c4) (d5 : o5.data = .cell c5)
    (hl : g.IsList al vs.toArray) (hI : IntsAre vs zs) (hlen : zs.length ≤ 63) :
    wpAny (model pw w) (lawA L fa cd) (execs lawBS.1 (lawE L fa cd)) (LawEnd g L s) NoE s := by
  rw [law_body_is]
  refine cutT _ _ _ _ (law_s0 G hb F N hl hI hlen) fun b0 h tk gs m0 F0 N0 ht0 hb0 => ?_
  clear F N hb
  refine cutT _ _ _ _ (law_s1 G hb0 ht0 F0 N0 d1) fun b1 h tk gs m1 F1 N1 ht1 hb1 => ?_
  clear F0 N0 hb0 ht0
  refine cutT _ _ _ _ (law_s2 G hb1 ht1 F1 N1 b1.ho b1.hv b0.hv b0.hn) fun b2 h tk gs m2 F2 N2 ht2 hb2 => ?_
  clear F1 N1 hb1 ht1
  refine cutT _ _ _ _ (law_s3 (o3 := o3) (o4 := o4) (o5 := o5) (rest := (b2.a, W.listOf b2.vs.toArray b2.n) :: b2.pre) G hb2 ht2 F2 (News.sub N2 (mfa (.tail _ (.head _)) (mfa (.tail _ (.tail _ (.head _))) (mfa (.tail _ (.tail _ (.tail _ (.head _)))) (mfa (.tail _ (.tail _ (.tail _ (.tail _ (.head _))))) (mfa (.tail _ (.tail _ (.tail _ (.tail _ (.tail _ (.head _)))))) (mfa (.head _) (fun p hp => .tail _ (.tail _ (.tail _ (.tail _ (.tail _ (.tail _ (hp)))))))))))))) d2 (mfa notCell_list b2.hp.notCell)) fun b3 h tk gs m3 F3 N3 ht3 hb3 => ?_
  clear F2 N2 hb2 ht2
  refine cutT _ _ _ _ (law_s4 (o4 := o4) (o5 := o5) (rest := (L + 1 + 1, b3.o) :: (b3.a, W.listOf b3.vs.toArray b3.n) :: (b2.a, W.listOf b2.vs.toArray b2.n) :: (b2.pre ++ b3.pre)) G hb3 ht3 F3 (News.sub N3 (mfa (.tail _ (.tail _ (.head _))) (mfa (.tail _ (.tail _ (.tail _ (.head _)))) (mfa (.tail _ (.tail _ (.tail _ (.tail _ (.head _))))) (mfa (.tail _ (.tail _ (.tail _ (.tail _ (.tail _ (.head _)))))) (mfa (.head _) (mfa (.tail _ (.head _)) (mfa (.tail _ (.tail _ (.tail _ (.tail _ (.tail _ (.tail _ (.head _))))))) (fun p hp => .tail _ (.tail _ (.tail _ (.tail _ (.tail _ (.tail _ (.tail _ (hp)))))))))))))))) d3 (mfa (.inl (neN (by omega))) (mfa (.inr notCell_list) (mfa (.inr notCell_list) (mfp (fun p hp => .inr (b2.hp.notCell p hp)) (fun p hp => .inr (b3.hp.notCell p hp))))))) fun b4 h tk gs m4 F4 N4 ht4 hb4 => ?_
  clear F3 N3 hb3 ht3
  refine cutT _ _ _ _ (law_s5 (o4 := o4) (o5 := o5) (o2 := b3.o) (o3 := b4.o) (a1 := b3.a) (a2 := b4.a) (vs1 := b3.vs) (vs2 := b4.vs) (n1 := b3.n) (n2 := b4.n) (rest := (b2.a, W.listOf b2.vs.toArray b2.n) :: (b2.pre ++ b3.pre ++ b4.pre)) (pre1 := b3.pre) (pre2 := b4.pre) G hb4 ht4 (Fr.over (l := [(Str.ofString "files", .ref b2.a)]) F4 ⟨rfl, trivial⟩) (News.sub N4 (mfa (.tail _ (.tail _ (.head _))) (mfa (.tail _ (.tail _ (.tail _ (.head _)))) (mfa (.head _) (mfa (.tail _ (.tail _ (.tail _ (.tail _ (.tail _ (.head _)))))) (mfa (.tail _ (.tail _ (.tail _ (.tail _ (.tail _ (.tail _ (.head _))))))) (mfa (.tail _ (.head _)) (mfa (.tail _ (.tail _ (.tail _ (.tail _ (.head _))))) (mfa (.tail _ (.tail _ (.tail _ (.tail _ (.tail _ (.tail _ (.tail _ (.head _)))))))) (fun p hp => .tail _ (.tail _ (.tail _ (.tail _ (.tail _ (.tail _ (.tail _ (.tail _ (hp)))))))))))))))))) b3.ho b4.ho d4 d5 (mfa notCell_list (mfp (mfp b2.hp.notCell b3.hp.notCell) b4.hp.notCell))
    (fun p hp => .tail _ (List.mem_append_left _ (List.mem_append_right _ hp))) (fun p hp => .tail _ (List.mem_append_right _ hp)) b3.hv b4.hv b3.hn b4.hn b3.hk b4.hk) fun b5 h tk gs m5 F5 N5 ht5 hb5 => ?_
  clear F4 N4 hb4 ht4
  obtain ⟨b5, hx1, hx2⟩ := b5
  refine cutT _ _ _ _ (law_s6 (fs := b2.vs) (nF := b2.n) (rest := (L + 1 + 1 + 1 + 1 + 1, b5.o5) :: (L + 1 + 1 + 1 + 1, b5.o4) :: (L + 1 + 1 + 1, b4.o) :: (L + 1 + 1, b3.o) :: (b3.a, W.listOf b3.vs.toArray b3.n) :: (b4.a, W.listOf b4.vs.toArray b4.n) :: (b2.pre ++ b3.pre ++ b4.pre)) (preF := b2.pre) G hb5 ht5 F5 (News.sub N5 (mfa (.tail _ (.tail _ (.tail _ (.tail _ (.tail _ (.tail _ (.tail _ (.head _)))))))) (mfa (.tail _ (.tail _ (.tail _ (.tail _ (.tail _ (.tail _ (.head _))))))) (mfa (.head _) (mfa (.tail _ (.head _)) (mfa (.tail _ (.tail _ (.head _))) (mfa (.tail _ (.tail _ (.tail _ (.head _)))) (mfa (.tail _ (.tail _ (.tail _ (.tail _ (.head _))))) (mfa (.tail _ (.tail _ (.tail _ (.tail _ (.tail _ (.head _)))))) (fun p hp => .tail _ (.tail _ (.tail _ (.tail _ (.tail _ (.tail _ (.tail _ (.tail _ (hp)))))))))))))))))) (fun p hp => .tail _ (.tail _ (.tail _ (.tail _ (.tail _ (.tail _ (List.mem_append_left _ (List.mem_append_left _ hp)))))))) b2.hv b2.hn) fun b6 h tk gs m6 F6 N6 ht6 hb6 => ?_
  clear F5 N5 hb5 ht5
  obtain ⟨b6, hp6, hT, hD⟩ := b6
  have hrl : (b2.fls.map Fl.due).length ≤ 11 := by rw [List.length_map]; exact b2.hn
  have N7 := News.sub N6 (b := ((82 : Addr), tabObj #[]) :: (L + 1 + 1 + 1 + 1 + 1, b5.o5) :: (L + 1 + 1 + 1 + 1, b5.o4) :: (b6.aT, W.listOf b6.ts.toArray b6.nT) :: (b6.aD, W.listOf b6.ds.toArray b6.nD) :: (L + 1 + 1 + 1, b4.o) :: (L + 1 + 1, b3.o) :: (b3.a, W.listOf b3.vs.toArray b3.n) :: (b4.a, W.listOf b4.vs.toArray b4.n) :: (b3.pre ++ b4.pre ++ b6.pre)) (mfa (.tail _ (.tail _ (.head _))) (mfa (.tail _ (.tail _ (.tail _ (.head _)))) (mfa (.tail _ (.tail _ (.tail _ (.tail _ (.head _))))) (mfa (.head _) (mfa (.tail _ (.head _)) (mfa (.tail _ (.tail _ (.tail _ (.tail _ (.tail _ (.head _)))))) (mfa (.tail _ (.tail _ (.tail _ (.tail _ (.tail _ (.tail _ (.head _))))))) (mfa (.tail _ (.tail _ (.tail _ (.tail _ (.tail _ (.tail _ (.tail _ (.head _)))))))) (mfa (.tail _ (.tail _ (.tail _ (.tail _ (.tail _ (.tail _ (.tail _ (.tail _ (.head _))))))))) (mfp (mfp (fun p hp => .tail _ (.tail _ (.tail _ (.tail _ (.tail _ (.tail _ (.tail _ (.tail _ (.tail _ (List.mem_append_left _ (List.mem_append_left _ (List.mem_append_right _ hp)))))))))))) (fun p hp => .tail _ (.tail _ (.tail _ (.tail _ (.tail _ (.tail _ (.tail _ (.tail _ (.tail _ (List.mem_append_left _ (List.mem_append_right _ hp)))))))))))) (fun p hp => .tail _ (.tail _ (.tail _ (.tail _ (.tail _ (.tail _ (.tail _ (.tail _ (.tail _ (List.mem_append_right _ hp))))))))))))))))))))
  clear N6
  refine cutT _ _ _ _ (law_s7 (ps := #[]) (rest := (b6.aD, W.listOf b6.ds.toArray b6.nD) :: (L + 1 + 1 + 1, b4.o) :: (L + 1 + 1, b3.o) :: (b3.a, W.listOf b3.vs.toArray b3.n) :: (b4.a, W.listOf b4.vs.toArray b4.n) :: (b3.pre ++ b4.pre ++ b6.pre)) (pre := b6.pre) (ks1 := b3.ks) (ks2 := b4.ks) G hb6 ht6 trivial F6 N7 b5.h4 b5.h5 (fun p hp => .tail _ (.tail _ (.tail _ (.tail _ (.tail _ (List.mem_append_right _ hp)))))) hp6 (ne82s N7 (.head _) fun p hp => ⟨.tail _ hp, ?s2⟩) hT hrl hx1 hx2 b3.hk b4.hk b3.hn b4.hn) fun b7 h tk gs m7 F7 N8 ht7 hb7 => ?_
  case s2 =>
    revert p hp
    refine mfa (P := fun p => ∀ xs, p.2 ≠ tabObj xs) ?_ (mfa ?_ (mfa ?_ (mfa ?_ (mfa ?_ (mfa ?_ (mfa ?_ (mfa ?_ (mfp (mfp (fun p hp => (b3.hp p hp).elim fun _ l => l.ne82) (fun p hp => (b4.hp p hp).elim fun _ l => l.ne82)) (fun p hp => (hp6 p hp).elim fun _ l => l.ne82)))))))))
    all_goals first | exact lo82 | exact cell_ne82 b5.h5 | exact cell_ne82 b5.h4 | exact cell_ne82 b4.ho | exact cell_ne82 b3.ho
  clear F6 N7 hb6 ht6
  refine cutQ fun Q1 q1 q2 => ?_
  refine wpAny_mono (law_s8 (ps := b7.ps) (o2 := b3.o) (o3 := b4.o) (a1 := b3.a) (a2 := b4.a) (vs1 := b3.vs) (vs2 := b4.vs) (n1 := b3.n) (n2 := b4.n) (nFd := b7.n) (nT := b6.nT) (nD := b6.nD) (fd := pk (fdP b3.ks b4.ks) (b6.ts.zip (b2.fls.map Fl.due))) (rest := b3.pre ++ b4.pre ++ b6.pre) (pre := b6.pre) (pre1 := b3.pre) (pre2 := b4.pre) (rds := b2.fls.map Fl.due) (ks1 := b3.ks) (ks2 := b4.ks) (ts := b6.ts) (ds := b6.ds) G hb7 ht7 F7 (News.sub N8 (mfa (.tail _ (.tail _ (.tail _ (.tail _ (.tail _ (.tail _ (.head _))))))) (mfa (.tail _ (.tail _ (.tail _ (.tail _ (.tail _ (.tail _ (.tail _ (.head _)))))))) (mfa (.tail _ (.tail _ (.tail _ (.tail _ (.tail _ (.tail _ (.tail _ (.tail _ (.head _))))))))) (mfa (.tail _ (.tail _ (.tail _ (.tail _ (.tail _ (.tail _ (.tail _ (.tail _ (.tail _ (.head _)))))))))) (mfa (.head _) (mfa (.tail _ (.tail _ (.tail _ (.tail _ (.head _))))) (mfa (.tail _ (.tail _ (.tail _ (.tail _ (.tail _ (.head _)))))) (mfa (.tail _ (.head _)) (fun p hp => .tail _ (.tail _ (.tail _ (.tail _ (.tail _ (.tail _ (.tail _ (.tail _ (.tail _ (.tail _ (hp)))))))))))))))))))) b3.ho b4.ho rfl (fun p hp => List.mem_append_right _ hp) (fun p hp => List.mem_append_left _ (List.mem_append_left _ hp)) (fun p hp => List.mem_append_left _ (List.mem_append_right _ hp)) b3.hv b4.hv hT hD hrl b3.hk b4.hk b3.hn b4.hn) (fun f s' x => ?_) fun _ _ x => x
  obtain ⟨rfl, r⟩ := x
  exact q2 _ _ ⟨rfl, r⟩
end Mine
end
section
open PySem PySem.W PyProof.Rows
namespace Mine
theorem law_good {s₁ s' : Shared} {cl : Str → Option Addr} {mean : ExcName → Option Value} {args : List WData} {L : Addr} {m : Str → Option Value} {ps : Array Value} (hT : TabsAt [(86, 82)] s₁.heap) (F : Fr (ghostOf s₁.heap [(86, 82)]) L s'.heap m)
    (N : News (ghostOf s₁.heap [(86, 82)]) L s'.heap [((82 : Addr), tabObj ps)]) (hos : s'.os = s₁.os) (hb : AllBare s'.gens) : GoodWG PySem.Challenge.rw_in0047_01.row.claim cl mean args s₁ (.ok (.ret (.bool true))) s' := by
  have keep : ∀ b o, b ≠ (82 : Addr) → s₁.heap.get? b = some o → s'.heap.get? b = some o := fun b o hb e => F.keep b o (ghost_ne e (by simpa using hb))
  have tb := (hT (86, 82) (.head _))
  have hP := (N _ (.head _)).1
  refine ⟨.inl ⟨.bool true, .bool true, [], rfl, fun _ => rfl, ?_, ?po, fun _ => ⟨List.nodup_nil, fun _ h => nomatch h⟩⟩, ⟨fun b o e => ?_, fun b o e => ?_⟩, hos, hb⟩
  case po => first | (with_unfolding_all rfl) | kernel_rfl | (show (_ && _) = true; simp [RowW.claim, WShape.has])
  · constructor
  · by_cases hb : b = (82 : Addr)
    · subst hb
      have e2 := tb.2
      rw [show s₁.heap.get? (82 : Addr) = some o from e] at e2
      cases e2
      exact .inr (.inl ⟨(tb.1.tab tb.2).isCodeTable, rfl, #[], ps, rfl, by rw [Array.empty_append]; exact hP⟩)
    · exact .inl (keep b o hb e)
  · by_cases hb : b = (82 : Addr)
    · subst hb; exact ⟨_, hP⟩
    · exact ⟨o, keep b o hb e⟩
end Mine
end
section
open PySem PySem.W PyProof.Rows
namespace Mine
theorem bare_nil {gs : Array GenState} (h : gs = #[]) : AllBare gs := fun y hy => by rw [h] at hy; simp at hy
theorem law_holds.tw2124134355350193313 : True := trivial
theorem law_holds.tw6927793712695671261 : True := trivial
theorem law_holds.tw13536078969547264968 : True := trivial
theorem law_holds.tw9224339057887679639 : True := trivial
theorem law_holds.tw17557455588353107843 : True := trivial
theorem law_holds.tw7664682514474162845 : True := trivial
theorem law_holds.tw330593578740574053 : True := trivial
theorem law_holds.tw10802322836594944301 : True := trivial
theorem law_holds.tw5698644340446977077 : True := trivial
theorem law_holds.tw10560858632182383460 : True := trivial
theorem law_holds.tw6159533029260741167 : True := trivial
theorem law_holds.tw12223724995276690173 : True := trivial
theorem law_holds.tw1341266762083198811 : True := trivial
theorem law_holds.tw13882729330811710610 : True := trivial
theorem law_holds.tw1482498484730971407 : True := trivial
theorem law_holds.tw15150646450996357022 : True := trivial
theorem law_holds.tw1385162719727133579 : True := trivial
theorem law_holds.tw783853929423858275 : True := trivial
theorem law_holds.tw1321577142114698240 : True := trivial
theorem law_holds.tw241883133165282080 : True := trivial
theorem law_holds.tw9108185126057995050 : True := trivial
theorem law_holds.tw11310715605152030493 : True := trivial
theorem law_holds.tw1024454922138811184 : True := trivial
theorem law_holds.tw6586130253944379549 : True := trivial
theorem law_holds.tw15929282688142339957 : True := trivial
theorem law_holds.tw16869599502669767113 : True := trivial
theorem law_holds.tw7421483335098213213 : True := trivial
theorem law_holds.tw10486713781251687710 : True := trivial
theorem law_holds.tw6667284449218939238 : True := trivial
theorem law_holds.tw6317479115527610633 : True := trivial
theorem law_holds.tw699380112222796084 : True := trivial
theorem law_holds.tw9288214680346807717 : True := trivial
theorem law_holds.tw13543480682446532469 : True := trivial
theorem law_holds.tw8553002610548859549 : True := trivial
theorem law_holds.tw13220211186989608806 : True := trivial
theorem law_holds.tw9771763415549976096 : True := trivial
theorem law_holds.tw850272041215511910 : True := trivial
theorem law_holds.tw6869992995446874880 : True := trivial
theorem law_holds.tw4515466672771955728 : True := trivial
theorem law_holds.tw10242277825702978295 : True := trivial
theorem law_holds.tw18430954121086234272 : True := trivial
theorem law_holds.tw4441770287765753910 : True := trivial
theorem law_holds.tw14596297492920191028 : True := trivial
theorem law_holds.tw7408322871517469003 : True := trivial
theorem law_holds.tw12626328134170644701 : True := trivial
theorem law_holds.tw10465528174321978529 : True := trivial
theorem law_holds.tw14991590004735058009 : True := trivial
theorem law_holds.tw15352839923633478061 : True := trivial
theorem law_holds.tw2387193687640843687 : True := trivial
theorem law_holds.tw3850334171643177529 : True := trivial
theorem law_holds.tw1110774673406346159 : True := trivial
theorem law_holds.tw4370086069003782432 : True := trivial
theorem law_holds.tw7407239408455114201 : True := trivial
theorem law_holds.tw10643469859437029617 : True := trivial
theorem law_holds.tw10566571302883470556 : True := trivial
theorem law_holds.tw9069877914133315304 : True := trivial
theorem law_holds.tw11232796583565578275 : True := trivial
theorem law_holds.tw16099233806120587224 : True := trivial
theorem law_holds.tw11017292853192552079 : True := trivial
theorem law_holds.tw631266038723830076 : True := trivial
theorem law_holds.tw13431030151845061361 : True := trivial
theorem law_holds.tw16009327648451700120 : True := trivial
theorem law_holds.tw7696488724909661519 : True := trivial
theorem law_holds.tw9849722394096787677 : True := trivial
theorem law_holds.tw8453982366859765931 : True := trivial
theorem law_holds.tw2159558930717985069 : True := trivial
theorem law_holds.tw15806970514647361693 : True := trivial
theorem law_holds.tw12622292602297523153 : True := trivial
theorem law_holds.tw21840994322534411 : True := trivial
theorem law_holds.tw7093711212748702512 : True := trivial
theorem law_holds.tw18008138432589292187 : True := trivial
theorem law_holds.tw1905533677188600702 : True := trivial
theorem law_holds.tw2136269947727277649 : True := trivial
theorem law_holds.tw6776455111828631412 : True := trivial
theorem law_holds.tw2102315897755806987 : True := trivial
theorem law_holds.tw3850375180904979519 : True := trivial
theorem law_holds.tw15527639110640922598 : True := trivial
theorem law_holds.tw4037582482628031876 : True := trivial
theorem law_holds.tw2618386414584295968 : True := trivial
theorem law_holds.tw1685627985566243432 : True := trivial
theorem law_holds.tw10835892554885059660 : True := trivial
theorem law_holds.tw16720094985154256693 : True := trivial
theorem law_holds.tw17274716441693411508 : True := trivial
theorem law_holds.tw197239857592181537 : True := trivial
theorem law_holds.tw745255978533919091 : True := trivial
theorem law_holds.tw9889521400790421688 : True := trivial
theorem law_holds.tw10362271348294423435 : True := trivial
theorem law_holds.tw12476058986133298565 : True := trivial
theorem law_holds.tw15014403891855920072 : True := trivial
theorem law_holds.tw7472407996622490835 : True := trivial
theorem law_holds.tw1285599515219305098 : True := trivial
theorem law_holds.tw13190408463805328480 : True := trivial
theorem law_holds.tw2907883995040033537 : True := trivial
theorem law_holds.tw12456547296908542839 : True := trivial
theorem law_holds.tw16461882675039125421 : True := trivial
theorem law_holds.tw14377833709258309704 : True := trivial
theorem law_holds.tw8011658773829754393 : True := trivial
theorem law_holds.tw1909877003179415225 : True := trivial
theorem law_holds.tw5364902710198789758 : True := trivial
theorem law_holds.tw16732305276352716913 : True := trivial
theorem law_holds.tw2143268655074302082 : True := trivial
theorem law_holds.tw718173064312146323 : True := trivial
theorem law_holds.tw9423440377400516374 : True := trivial
theorem law_holds.tw6278007196253713424 : True := trivial
theorem law_holds.tw16563099163409725306 : True := trivial
theorem law_holds.tw18203989763732354715 : True := trivial
theorem law_holds.tw10666784280354678857 : True := trivial
theorem law_holds.tw9207643191828677137 : True := trivial
theorem law_holds.tw6499956759230125245 : True := trivial
theorem law_holds.tw1973129929022764952 : True := trivial
theorem law_holds.tw12831907817818079685 : True := trivial
theorem law_holds.tw17255088995462705879 : True := trivial
theorem law_holds.tw3742325753681652743 : True := trivial
theorem law_holds.tw907578622648922086 : True := trivial
theorem law_holds.tw13028658284911697911 : True := trivial
theorem law_holds.tw17499823404086765753 : True := trivial
theorem law_holds.tw2090888555730037645 : True := trivial
theorem law_holds.tw8957123355933967898 : True := trivial
theorem law_holds.tw7897602043232517924 : True := trivial
theorem law_holds.tw14997073306097389879 : True := trivial
theorem law_holds.tw14335913921861858828 : True := trivial
theorem law_holds.tw10188763426450519768 : True := trivial
theorem law_holds.tw8075568018651887793 : True := trivial
set_option Elab.async true in
set_option maxHeartbeats 80000000 in
theorem law_holds : PySem.Challenge.rw_in0047_01.Holds := by
  w_on
  o_law
  o_head (kmHook hd.heap_39 addrs addrs_eq [82])
  case hw => w_witness2
  k_fill
  intro w s₀ s₁ mg mb G Y fa o pm cd doc dV kV ho hd hcd hD hmg hg args vals as hpre hlay hrd hwl hlo
  have KX := km_in_of Y
  km_tabs Y
  have X := (Ground.X G).1
  have V := (Ground.X G).2
  refine Ground.open G ?_
  intro T B D TE TW
  try (refine guard_noD D (by decide +kernel) ?_; clear D)
  km_lay T hmg ho hd cd
  clear hmg
  wrow_args hpre hlay hrd hwl hlo
  all_goals (
    first | refine callC_kw (enter_call ?_) | refine enter_call ?_
    w_top on
    w_call any ho hd hcd hD T F
    clear hd
    kn_ghosts F T
    k_drop
    skip)
  rename IntsAre _ _ => hI
  rename Fr _ _ _ _ => F
  rename News _ _ _ _ => N
  rename ¬ _ < _ => hlen
  rename Top _ _ _ _ _ _ => TT
  rename Below _ _ _ _ => BB
  rename Frag.In _ _ => XX
  refine to_end (law_walk (w := w) (g := ghostOf s₁.heap [(86, 82)]) (L := s₁.heap.objs.size) ⟨XX, ⟨_, _, _, _, _, TT⟩, BB⟩ (bare_nil hg) (Fr.over (l := [(Str.ofString "script", _)]) F ⟨rfl, trivial⟩) N (by assumption) (by assumption) (by assumption) (by assumption) (by assumption) lifted hI (by omega)) (fun f s' x => ?_)
  obtain ⟨rfl, h, tk, gs, m, ps, rfl, F2, N2, hb2⟩ := x
  exact law_good hT9 F2 N2 rfl hb2
end Mine
end
theorem PySem.Challenge.cw_in0047_01_holds : PySem.Challenge.rw_in0047_01.Holds :=
  Mine.law_holds
