import PyProof.Rows.All
import Wide.All
import OpenK.AllK
import Wide.FinOn
import PySem.Challenge.RW_io0017_01
open PySem PySem.W PyProof.Rows PySem.Calls
set_option Elab.async false
set_option maxRecDepth 100000
set_option maxHeartbeats 8000000
set_option compiler.extract_closed false
namespace Mine
/-! the program's own statements, by their places -/
noncomputable def stmtAt : List Stmt → Nat → Stmt
  | [], _ => .Pass default
  | s :: _, 0 => s
  | _ :: r, n + 1 => stmtAt r n
noncomputable def clsBody : Stmt → List Stmt
  | .ClassDef _ _ _ b _ _ _ _ _ _ _ => b
  | _ => []
noncomputable def defParts : Stmt → Arguments × List Stmt × Scope
  | .FunctionDef _ a b _ _ _ sc _ _ _ => (a, b, sc)
  | _ => (⟨[], [], none, [], [], none, []⟩, [], default)
abbrev Ast (s : Stmt) : Type := { x : Arguments × List Stmt × Scope // defParts s = x }
/-! the written part of the heap (printed by genfrag.lean) -/
noncomputable abbrev ast__index : Ast (stmtAt Challenge.pw_io0017_01.main.body 4) := ⟨(_, _, _), rfl⟩
noncomputable abbrev ast_IOBase_new : Ast (stmtAt (clsBody (stmtAt Challenge.pw_io0017_01.main.body 6)) 1) := ⟨(_, _, _), rfl⟩
noncomputable abbrev ast_StringIO_init : Ast (stmtAt (clsBody (stmtAt Challenge.pw_io0017_01.main.body 10)) 1) := ⟨(_, _, _), rfl⟩
noncomputable abbrev ast_StringIO_translated : Ast (stmtAt (clsBody (stmtAt Challenge.pw_io0017_01.main.body 10)) 2) := ⟨(_, _, _), rfl⟩
noncomputable abbrev ast_StringIO_check : Ast (stmtAt (clsBody (stmtAt Challenge.pw_io0017_01.main.body 10)) 3) := ⟨(_, _, _), rfl⟩
noncomputable abbrev ast_StringIO_line : Ast (stmtAt (clsBody (stmtAt Challenge.pw_io0017_01.main.body 10)) 5) := ⟨(_, _, _), rfl⟩
noncomputable abbrev ast_StringIO_read : Ast (stmtAt (clsBody (stmtAt Challenge.pw_io0017_01.main.body 10)) 25) := ⟨(_, _, _), rfl⟩
noncomputable abbrev ast_StringIO_readline : Ast (stmtAt (clsBody (stmtAt Challenge.pw_io0017_01.main.body 10)) 26) := ⟨(_, _, _), rfl⟩
noncomputable abbrev ast_shlex_init : Ast (stmtAt (clsBody (stmtAt Challenge.pw_io0017_01.main.body 19)) 0) := ⟨(_, _, _), rfl⟩
noncomputable abbrev ast_shlex_punctuation_chars : Ast (stmtAt (clsBody (stmtAt Challenge.pw_io0017_01.main.body 19)) 1) := ⟨(_, _, _), rfl⟩
noncomputable abbrev ast_shlex_get_token : Ast (stmtAt (clsBody (stmtAt Challenge.pw_io0017_01.main.body 19)) 5) := ⟨(_, _, _), rfl⟩
noncomputable abbrev ast_shlex_read_token : Ast (stmtAt (clsBody (stmtAt Challenge.pw_io0017_01.main.body 19)) 6) := ⟨(_, _, _), rfl⟩
noncomputable abbrev ast_shlex_iter : Ast (stmtAt (clsBody (stmtAt Challenge.pw_io0017_01.main.body 19)) 9) := ⟨(_, _, _), rfl⟩
noncomputable abbrev ast_shlex_next : Ast (stmtAt (clsBody (stmtAt Challenge.pw_io0017_01.main.body 19)) 10) := ⟨(_, _, _), rfl⟩
noncomputable abbrev ast__law_digits : Ast (stmtAt Challenge.pw_io0017_01.main.body 21) := ⟨(_, _, _), rfl⟩
noncomputable abbrev ast__law_part : Ast (stmtAt Challenge.pw_io0017_01.main.body 22) := ⟨(_, _, _), rfl⟩
noncomputable abbrev ast__law_take : Ast (stmtAt Challenge.pw_io0017_01.main.body 23) := ⟨(_, _, _), rfl⟩
noncomputable abbrev ast_law : Ast (stmtAt Challenge.pw_io0017_01.main.body 24) := ⟨(_, _, _), rfl⟩
noncomputable def frag (P : Params) : Frag :=
  (nat_lit 2, ⟨.none, none, .dict #[⟨PyData.keyHash P (Str.ofString "\x69mport.loaded._collections"), .str (Str.ofString "\x69mport.loaded._collections") 185, .bool true⟩, ⟨PyData.keyHash P (Str.ofString "class._frozen_importlib.BuiltinImporter"), .str (Str.ofString "class._frozen_importlib.BuiltinImporter") 187, .ref 15⟩, ⟨PyData.keyHash P (Str.ofString "watched.\x69mport"), .str (Str.ofString "watched.\x69mport") 208, .ref 19⟩, ⟨PyData.keyHash P (Str.ofString "class._frozen_importlib.ModuleSpec"), .str (Str.ofString "class._frozen_importlib.ModuleSpec") 218, .ref 23⟩, ⟨PyData.keyHash P (Str.ofString "sys.modules.booked-epoch"), .str (Str.ofString "sys.modules.booked-epoch") 247, .int 3 0⟩, ⟨PyData.keyHash P (Str.ofString "sys.modules.landed._collections"), .str (Str.ofString "sys.modules.landed._collections") 248, .bool true⟩, ⟨PyData.keyHash P (Str.ofString "\x69mport.later-laid._collections"), .str (Str.ofString "\x69mport.later-laid._collections") 263, .bool true⟩, ⟨PyData.keyHash P (Str.ofString "watched.library"), .str (Str.ofString "watched.library") 265, .ref 28⟩, ⟨PyData.keyHash P (Str.ofString "watched.library-objects"), .str (Str.ofString "watched.library-objects") 0, .str (Str.ofString "\x0d") 0⟩, ⟨PyData.keyHash P (Str.ofString "watched.library-deep._collections"), .str (Str.ofString "watched.library-deep._collections") 266, .str (Str.ofString "\x04\x00\x00\x0c\x04\x00\x00\x0c\x04\x00\x00\x03\x04\x00\x00\x0c\x08\x04dict\x02") 0⟩, ⟨PyData.keyHash P (Str.ofString "type.__subclasses__.OSError.0"), .str (Str.ofString "type.__subclasses__.OSError.0") 322, .int 63 0⟩, ⟨PyData.keyHash P (Str.ofString "type.__subclasses__.OSError.n"), .str (Str.ofString "type.__subclasses__.OSError.n") 323, .int 1 0⟩] 12, #[]⟩) ::
  (nat_lit 3, ⟨.type "dict", none, .dict (List.toArray (⟨PyData.keyHash P (Str.ofString "__name__"), .str (Str.ofString "__name__") 165, .str (Str.ofString "law_io0017_01") 1142⟩ :: ⟨PyData.keyHash P (Str.ofString "__doc__"), .str (Str.ofString "__doc__") 166, .none⟩ :: ⟨PyData.keyHash P (Str.ofString "__package__"), .str (Str.ofString "__package__") 167, .none⟩ :: ⟨PyData.keyHash P (Str.ofString "__loader__"), .str (Str.ofString "__loader__") 168, .builtin "__main__.__loader__#opaque"⟩ :: ⟨PyData.keyHash P (Str.ofString "__spec__"), .str (Str.ofString "__spec__") 169, .none⟩ :: ⟨PyData.keyHash P (Str.ofString "__annotations__"), .str (Str.ofString "__annotations__") 170, .ref 6⟩ :: ⟨PyData.keyHash P (Str.ofString "__builtins__"), .str (Str.ofString "__builtins__") 171, .ref 4⟩ :: ⟨PyData.keyHash P (Str.ofString "__file__"), .str (Str.ofString "__file__") 173, .str (Str.ofString "/claim/cut.py") 172⟩ :: ⟨PyData.keyHash P (Str.ofString "__cached__"), .str (Str.ofString "__cached__") 174, .none⟩ :: ⟨PyData.keyHash P (Str.ofString "deque"), .str (Str.ofString "deque") 272, .type "collections.deque"⟩ :: ⟨PyData.keyHash P (Str.ofString "_wall"), .str (Str.ofString "_wall") 285, .ref 39⟩ :: ⟨PyData.keyHash P (Str.ofString "_whence"), .str (Str.ofString "_whence") 295, .ref 46⟩ :: ⟨PyData.keyHash P (Str.ofString "_index"), .str (Str.ofString "_index") 303, .ref 53⟩ :: ⟨PyData.keyHash P (Str.ofString "UnsupportedOperation"), .str (Str.ofString "UnsupportedOperation") 325, .ref 63⟩ :: ⟨PyData.keyHash P (Str.ofString "IOBase"), .str (Str.ofString "IOBase") 357, .ref 83⟩ :: ⟨PyData.keyHash P (Str.ofString "BufferedIOBase"), .str (Str.ofString "BufferedIOBase") 375, .ref 98⟩ :: ⟨PyData.keyHash P (Str.ofString "TextIOBase"), .str (Str.ofString "TextIOBase") 393, .ref 110⟩ :: ⟨PyData.keyHash P (Str.ofString "BytesIO"), .str (Str.ofString "BytesIO") 655, .ref 340⟩ :: ⟨PyData.keyHash P (Str.ofString "StringIO"), .str (Str.ofString "StringIO") 942, .ref 587⟩ :: ⟨PyData.keyHash P (Str.ofString "_kind"), .str (Str.ofString "_kind") 953, .ref 596⟩ :: ⟨PyData.keyHash P (Str.ofString "_fspath"), .str (Str.ofString "_fspath") 962, .ref 603⟩ :: ⟨PyData.keyHash P (Str.ofString "_check_arg_types"), .str (Str.ofString "_check_arg_types") 972, .ref 610⟩ :: ⟨PyData.keyHash P (Str.ofString "isabs"), .str (Str.ofString "isabs") 979, .ref 617⟩ :: ⟨PyData.keyHash P (Str.ofString "join"), .str (Str.ofString "join") 990, .ref 624⟩ :: ⟨PyData.keyHash P (Str.ofString "dirname"), .str (Str.ofString "dirname") 1000, .ref 631⟩ :: ⟨PyData.keyHash P (Str.ofString "shlex"), .str (Str.ofString "shlex") 1141, .ref 722⟩ :: ⟨PyData.keyHash P (Str.ofString "_law_digits"), .str (Str.ofString "_law_digits") 1152, .ref 733⟩ :: ⟨PyData.keyHash P (Str.ofString "_law_part"), .str (Str.ofString "_law_part") 1160, .ref 740⟩ :: ⟨PyData.keyHash P (Str.ofString "_law_take"), .str (Str.ofString "_law_take") 1170, .ref 747⟩ :: ⟨PyData.keyHash P (Str.ofString "law"), .str (Str.ofString "law") 1176, .ref 752⟩ :: List.nil)) 30, #[]⟩) ::
  (nat_lit 52, ⟨.type "code", none, .fields #[.str (Str.ofString "_index") 296, .str (Str.ofString "_index") 297, .str (Str.ofString "/claim/cut.py") 298, .int 11 0, .int 2 0, .int 0 0, .int 0 0, .int 3 0, .ref 47, .bool true, .int 273 0, .ref 48, .none, .ref 49, .ref 50, .ref 51, .int 301 0, .int 11 0, .str (Str.ofString "/claim/cut.py") 302], #[]⟩) ::
  (nat_lit 53, ⟨.type "function", none, .func (fnOf (Str.ofString "_index") (Str.ofString "_index") ast__index.1.1 ast__index.1.2.1 ast__index.1.2.2 (.none) .none (.none) (.str (Str.ofString "io") 286) none (.ref 52) .none), #[]⟩) ::
  (nat_lit 79, ⟨.type "code", none, .fields #[.str (Str.ofString "__new__") 340, .str (Str.ofString "IOBase.__new__") 341, .str (Str.ofString "/claim/cut.py") 342, .int 23 0, .int 1 0, .int 1 0, .int 0 0, .int 15 0, .ref 74, .bool true, .int 273 0, .ref 75, .none, .ref 76, .ref 77, .ref 78, .int 346 0, .int 23 0, .str (Str.ofString "/claim/cut.py") 347], #[]⟩) ::
  (nat_lit 80, ⟨.type "function", none, .func (fnOf (Str.ofString "__new__") (Str.ofString "IOBase.__new__") ast_IOBase_new.1.1 ast_IOBase_new.1.2.1 ast_IOBase_new.1.2.2 (.none) .none (.none) (.str (Str.ofString "io") 286) none (.ref 79) .none), #[]⟩) ::
  (nat_lit 82, ⟨.type "dict", none, .dict #[⟨PyData.keyHash P (Str.ofString "__module__"), .str (Str.ofString "__module__") 333, .str (Str.ofString "io") 338⟩, ⟨PyData.keyHash P (Str.ofString "__firstlineno__"), .str (Str.ofString "__firstlineno__") 337, .int 20 336⟩, ⟨PyData.keyHash P (Str.ofString "__new__"), .str (Str.ofString "__new__") 348, .ref 84⟩, ⟨PyData.keyHash P (Str.ofString "__static_attributes__"), .str (Str.ofString "__static_attributes__") 349, .ref 81⟩, ⟨PyData.keyHash P (Str.ofString "__dict__"), .str (Str.ofString "__dict__") 352, .ref 85⟩, ⟨PyData.keyHash P (Str.ofString "__weakref__"), .str (Str.ofString "__weakref__") 354, .ref 86⟩, ⟨PyData.keyHash P (Str.ofString "__doc__"), .str (Str.ofString "__doc__") 355, .none⟩] 4, #[]⟩) ::
  (nat_lit 83, ⟨.type "type", none, .cls { name := (Str.ofString "IOBase"), bases := [.type "object"], mro := [.ref 83, .type "object"], ns := 82, qualname := (Str.ofString "IOBase"), hasDict := true, slotNames := [], subclasses := [.ref 98, .ref 110], abstract := false, collection := none, hasDel := false }, #[none, none, (some (.str (Str.ofString "IOBase") 326)), (some (.str (Str.ofString "IOBase") 334)), (some (.none)), (some (.bool true))]⟩) ::
  (nat_lit 84, ⟨.type "staticmethod", none, .fields #[.ref 80], #[]⟩) ::
  (nat_lit 109, ⟨.type "dict", none, .dict #[⟨PyData.keyHash P (Str.ofString "__module__"), .str (Str.ofString "__module__") 383, .str (Str.ofString "io") 388⟩, ⟨PyData.keyHash P (Str.ofString "__firstlineno__"), .str (Str.ofString "__firstlineno__") 387, .int 29 386⟩, ⟨PyData.keyHash P (Str.ofString "__static_attributes__"), .str (Str.ofString "__static_attributes__") 390, .ref 108⟩, ⟨PyData.keyHash P (Str.ofString "__doc__"), .str (Str.ofString "__doc__") 391, .none⟩] 2, #[]⟩) ::
  (nat_lit 110, ⟨.type "type", none, .cls { name := (Str.ofString "TextIOBase"), bases := [.ref 83], mro := [.ref 110, .ref 83, .type "object"], ns := 109, qualname := (Str.ofString "TextIOBase"), hasDict := true, slotNames := [], subclasses := [.ref 587], abstract := false, collection := none, hasDel := false }, #[(some (.ref 101)), none, (some (.str (Str.ofString "TextIOBase") 376)), (some (.str (Str.ofString "TextIOBase") 384)), (some (.none)), (some (.bool true))]⟩) ::
  (nat_lit 340, ⟨.type "type", none, .cls { name := (Str.ofString "BytesIO"), bases := [.ref 98], mro := [.ref 340, .ref 98, .ref 83, .type "object"], ns := 339, qualname := (Str.ofString "BytesIO"), hasDict := true, slotNames := [], subclasses := [], abstract := false, collection := none, hasDel := false }, #[(some (.ref 113)), none, (some (.str (Str.ofString "BytesIO") 394)), (some (.str (Str.ofString "BytesIO") 402)), (some (.none)), (some (.bool true))]⟩) ::
  (nat_lit 350, ⟨.type "tuple", none, .seq #[.str (Str.ofString "") 670, .str (Str.ofString "\n") 671] 0, #[]⟩) ::
  (nat_lit 356, ⟨.type "code", none, .fields #[.str (Str.ofString "__init__") 672, .str (Str.ofString "StringIO.__init__") 673, .str (Str.ofString "/claim/cut.py") 674, .int 204 0, .int 3 0, .int 0 0, .int 0 0, .int 3 0, .ref 351, .bool true, .int 273 0, .ref 352, .none, .ref 353, .ref 354, .ref 355, .int 678 0, .int 204 0, .str (Str.ofString "/claim/cut.py") 679], #[]⟩) ::
  (nat_lit 357, ⟨.type "function", none, .func (fnOf (Str.ofString "__init__") (Str.ofString "StringIO.__init__") ast_StringIO_init.1.1 ast_StringIO_init.1.2.1 ast_StringIO_init.1.2.2 (.ref 350) .none (.none) (.str (Str.ofString "io") 286) none (.ref 356) .none), #[]⟩) ::
  (nat_lit 363, ⟨.type "code", none, .fields #[.str (Str.ofString "__translated") 681, .str (Str.ofString "StringIO.__translated") 682, .str (Str.ofString "/claim/cut.py") 683, .int 217 0, .int 2 0, .int 0 0, .int 0 0, .int 3 0, .ref 358, .bool true, .int 273 0, .ref 359, .none, .ref 360, .ref 361, .ref 362, .int 687 0, .int 217 0, .str (Str.ofString "/claim/cut.py") 688], #[]⟩) ::
  (nat_lit 364, ⟨.type "function", none, .func (fnOf (Str.ofString "__translated") (Str.ofString "StringIO.__translated") ast_StringIO_translated.1.1 ast_StringIO_translated.1.2.1 ast_StringIO_translated.1.2.2 (.none) .none (.none) (.str (Str.ofString "io") 286) none (.ref 363) .none), #[]⟩) ::
  (nat_lit 370, ⟨.type "code", none, .fields #[.str (Str.ofString "__check") 690, .str (Str.ofString "StringIO.__check") 691, .str (Str.ofString "/claim/cut.py") 692, .int 225 0, .int 1 0, .int 0 0, .int 0 0, .int 3 0, .ref 365, .bool true, .int 273 0, .ref 366, .none, .ref 367, .ref 368, .ref 369, .int 694 0, .int 225 0, .str (Str.ofString "/claim/cut.py") 695], #[]⟩) ::
  (nat_lit 371, ⟨.type "function", none, .func (fnOf (Str.ofString "__check") (Str.ofString "StringIO.__check") ast_StringIO_check.1.1 ast_StringIO_check.1.2.1 ast_StringIO_check.1.2.2 (.none) .none (.none) (.str (Str.ofString "io") 286) none (.ref 370) .none), #[]⟩) ::
  (nat_lit 384, ⟨.type "code", none, .fields #[.str (Str.ofString "__line") 704, .str (Str.ofString "StringIO.__line") 705, .str (Str.ofString "/claim/cut.py") 706, .int 233 0, .int 2 0, .int 0 0, .int 0 0, .int 3 0, .ref 379, .bool true, .int 273 0, .ref 380, .none, .ref 381, .ref 382, .ref 383, .int 716 0, .int 233 0, .str (Str.ofString "/claim/cut.py") 717], #[]⟩) ::
  (nat_lit 385, ⟨.type "function", none, .func (fnOf (Str.ofString "__line") (Str.ofString "StringIO.__line") ast_StringIO_line.1.1 ast_StringIO_line.1.2.1 ast_StringIO_line.1.2.2 (.none) .none (.none) (.str (Str.ofString "io") 286) none (.ref 384) .none), #[]⟩) ::
  (nat_lit 526, ⟨.type "tuple", none, .seq #[.int (-1) 863] 0, #[]⟩) ::
  (nat_lit 532, ⟨.type "code", none, .fields #[.str (Str.ofString "read") 864, .str (Str.ofString "StringIO.read") 865, .str (Str.ofString "/claim/cut.py") 866, .int 347 0, .int 2 0, .int 2 0, .int 0 0, .int 3 0, .ref 527, .bool true, .int 273 0, .ref 528, .none, .ref 529, .ref 530, .ref 531, .int 871 0, .int 347 0, .str (Str.ofString "/claim/cut.py") 872], #[]⟩) ::
  (nat_lit 533, ⟨.type "function", none, .func (fnOf (Str.ofString "read") (Str.ofString "StringIO.read") ast_StringIO_read.1.1 ast_StringIO_read.1.2.1 ast_StringIO_read.1.2.2 (.ref 526) .none (.none) (.str (Str.ofString "io") 286) none (.ref 532) .none), #[]⟩) ::
  (nat_lit 534, ⟨.type "tuple", none, .seq #[.int (-1) 875] 0, #[]⟩) ::
  (nat_lit 540, ⟨.type "code", none, .fields #[.str (Str.ofString "readline") 876, .str (Str.ofString "StringIO.readline") 877, .str (Str.ofString "/claim/cut.py") 878, .int 361 0, .int 2 0, .int 2 0, .int 0 0, .int 3 0, .ref 535, .bool true, .int 273 0, .ref 536, .none, .ref 537, .ref 538, .ref 539, .int 881 0, .int 361 0, .str (Str.ofString "/claim/cut.py") 882], #[]⟩) ::
  (nat_lit 541, ⟨.type "function", none, .func (fnOf (Str.ofString "readline") (Str.ofString "StringIO.readline") ast_StringIO_readline.1.1 ast_StringIO_readline.1.2.1 ast_StringIO_readline.1.2.2 (.ref 534) .none (.none) (.str (Str.ofString "io") 286) none (.ref 540) .none), #[]⟩) ::
  (nat_lit 586, ⟨.type "dict", none, .dict (List.toArray (⟨PyData.keyHash P (Str.ofString "__module__"), .str (Str.ofString "__module__") 663, .str (Str.ofString "_io") 668⟩ :: ⟨PyData.keyHash P (Str.ofString "__firstlineno__"), .str (Str.ofString "__firstlineno__") 667, .int 201 666⟩ :: ⟨PyData.keyHash P (Str.ofString "__init__"), .str (Str.ofString "__init__") 680, .ref 357⟩ :: ⟨PyData.keyHash P (Str.ofString "_StringIO__translated"), .str (Str.ofString "_StringIO__translated") 689, .ref 364⟩ :: ⟨PyData.keyHash P (Str.ofString "_StringIO__check"), .str (Str.ofString "_StringIO__check") 696, .ref 371⟩ :: ⟨PyData.keyHash P (Str.ofString "_StringIO__check_dot"), .str (Str.ofString "_StringIO__check_dot") 703, .ref 378⟩ :: ⟨PyData.keyHash P (Str.ofString "_StringIO__line"), .str (Str.ofString "_StringIO__line") 718, .ref 385⟩ :: ⟨PyData.keyHash P (Str.ofString "closed"), .str (Str.ofString "closed") 726, .ref 393⟩ :: ⟨PyData.keyHash P (Str.ofString "line_buffering"), .str (Str.ofString "line_buffering") 734, .ref 401⟩ :: ⟨PyData.keyHash P (Str.ofString "newlines"), .str (Str.ofString "newlines") 742, .ref 409⟩ :: ⟨PyData.keyHash P (Str.ofString "encoding"), .str (Str.ofString "encoding") 750, .ref 417⟩ :: ⟨PyData.keyHash P (Str.ofString "errors"), .str (Str.ofString "errors") 758, .ref 425⟩ :: ⟨PyData.keyHash P (Str.ofString "close"), .str (Str.ofString "close") 765, .ref 432⟩ :: ⟨PyData.keyHash P (Str.ofString "__enter__"), .str (Str.ofString "__enter__") 772, .ref 439⟩ :: ⟨PyData.keyHash P (Str.ofString "__exit__"), .str (Str.ofString "__exit__") 780, .ref 446⟩ :: ⟨PyData.keyHash P (Str.ofString "readable"), .str (Str.ofString "readable") 787, .ref 453⟩ :: ⟨PyData.keyHash P (Str.ofString "writable"), .str (Str.ofString "writable") 794, .ref 460⟩ :: ⟨PyData.keyHash P (Str.ofString "seekable"), .str (Str.ofString "seekable") 801, .ref 467⟩ :: ⟨PyData.keyHash P (Str.ofString "isatty"), .str (Str.ofString "isatty") 808, .ref 474⟩ :: ⟨PyData.keyHash P (Str.ofString "flush"), .str (Str.ofString "flush") 815, .ref 481⟩ :: ⟨PyData.keyHash P (Str.ofString "fileno"), .str (Str.ofString "fileno") 822, .ref 488⟩ :: ⟨PyData.keyHash P (Str.ofString "detach"), .str (Str.ofString "detach") 829, .ref 495⟩ :: ⟨PyData.keyHash P (Str.ofString "getvalue"), .str (Str.ofString "getvalue") 836, .ref 502⟩ :: ⟨PyData.keyHash P (Str.ofString "tell"), .str (Str.ofString "tell") 843, .ref 509⟩ :: ⟨PyData.keyHash P (Str.ofString "seek"), .str (Str.ofString "seek") 853, .ref 517⟩ :: ⟨PyData.keyHash P (Str.ofString "truncate"), .str (Str.ofString "truncate") 861, .ref 525⟩ :: ⟨PyData.keyHash P (Str.ofString "read"), .str (Str.ofString "read") 873, .ref 533⟩ :: ⟨PyData.keyHash P (Str.ofString "readline"), .str (Str.ofString "readline") 883, .ref 541⟩ :: ⟨PyData.keyHash P (Str.ofString "readlines"), .str (Str.ofString "readlines") 893, .ref 549⟩ :: ⟨PyData.keyHash P (Str.ofString "__iter__"), .str (Str.ofString "__iter__") 900, .ref 556⟩ :: ⟨PyData.keyHash P (Str.ofString "__next__"), .str (Str.ofString "__next__") 908, .ref 563⟩ :: ⟨PyData.keyHash P (Str.ofString "write"), .str (Str.ofString "write") 920, .ref 570⟩ :: ⟨PyData.keyHash P (Str.ofString "writelines"), .str (Str.ofString "writelines") 928, .ref 577⟩ :: ⟨PyData.keyHash P (Str.ofString "__repr__"), .str (Str.ofString "__repr__") 935, .ref 584⟩ :: ⟨PyData.keyHash P (Str.ofString "__static_attributes__"), .str (Str.ofString "__static_attributes__") 939, .ref 585⟩ :: ⟨PyData.keyHash P (Str.ofString "__doc__"), .str (Str.ofString "__doc__") 940, .none⟩ :: List.nil)) 2, #[]⟩) ::
  (nat_lit 587, ⟨.type "type", none, .cls { name := (Str.ofString "StringIO"), bases := [.ref 110], mro := [.ref 587, .ref 110, .ref 83, .type "object"], ns := 586, qualname := (Str.ofString "StringIO"), hasDict := true, slotNames := [], subclasses := [], abstract := false, collection := none, hasDel := false }, #[(some (.ref 343)), none, (some (.str (Str.ofString "StringIO") 656)), (some (.str (Str.ofString "StringIO") 664)), (some (.none)), (some (.bool true))]⟩) ::
  (nat_lit 639, ⟨.type "tuple", none, .seq #[.none, .none, .bool false, .bool false] 0, #[]⟩) ::
  (nat_lit 645, ⟨.type "code", none, .fields #[.str (Str.ofString "__init__") 1015, .str (Str.ofString "shlex.__init__") 1016, .str (Str.ofString "/claim/cut.py") 1017, .int 472 0, .int 5 0, .int 0 0, .int 0 0, .int 3 0, .ref 640, .bool true, .int 273 0, .ref 641, .none, .ref 642, .ref 643, .ref 644, .int 1024 0, .int 472 0, .str (Str.ofString "/claim/cut.py") 1025], #[]⟩) ::
  (nat_lit 646, ⟨.type "function", none, .func (fnOf (Str.ofString "__init__") (Str.ofString "shlex.__init__") ast_shlex_init.1.1 ast_shlex_init.1.2.1 ast_shlex_init.1.2.2 (.ref 639) .none (.none) (.str (Str.ofString "cpy313.shlex") 1001) none (.ref 645) .none), #[]⟩) ::
  (nat_lit 652, ⟨.type "code", none, .fields #[.str (Str.ofString "punctuation_chars") 1027, .str (Str.ofString "shlex.punctuation_chars") 1028, .str (Str.ofString "/claim/cut.py") 1029, .int 513 0, .int 1 0, .int 0 0, .int 0 0, .int 3 0, .ref 647, .bool true, .int 273 0, .ref 648, .none, .ref 649, .ref 650, .ref 651, .int 1031 0, .int 513 0, .str (Str.ofString "/claim/cut.py") 1032], #[]⟩) ::
  (nat_lit 653, ⟨.type "function", none, .func (fnOf (Str.ofString "punctuation_chars") (Str.ofString "shlex.punctuation_chars") ast_shlex_punctuation_chars.1.1 ast_shlex_punctuation_chars.1.2.1 ast_shlex_punctuation_chars.1.2.2 (.none) .none (.none) (.str (Str.ofString "cpy313.shlex") 1001) none (.ref 652) .none), #[]⟩) ::
  (nat_lit 654, ⟨.type "property", none, .fields #[.ref 653, .none, .none, .none, .str (Str.ofString "punctuation_chars") 1034, .bool false], #[]⟩) ::
  (nat_lit 682, ⟨.type "code", none, .fields #[.str (Str.ofString "get_token") 1059, .str (Str.ofString "shlex.get_token") 1060, .str (Str.ofString "/claim/cut.py") 1061, .int 540 0, .int 1 0, .int 0 0, .int 0 0, .int 3 0, .ref 677, .bool true, .int 273 0, .ref 678, .none, .ref 679, .ref 680, .ref 681, .int 1068 0, .int 540 0, .str (Str.ofString "/claim/cut.py") 1069], #[]⟩) ::
  (nat_lit 683, ⟨.type "function", none, .func (fnOf (Str.ofString "get_token") (Str.ofString "shlex.get_token") ast_shlex_get_token.1.1 ast_shlex_get_token.1.2.1 ast_shlex_get_token.1.2.2 (.none) .none (.none) (.str (Str.ofString "cpy313.shlex") 1001) none (.ref 682) .none), #[]⟩) ::
  (nat_lit 689, ⟨.type "code", none, .fields #[.str (Str.ofString "read_token") 1071, .str (Str.ofString "shlex.read_token") 1072, .str (Str.ofString "/claim/cut.py") 1073, .int 567 0, .int 1 0, .int 0 0, .int 0 0, .int 3 0, .ref 684, .bool true, .int 273 0, .ref 685, .none, .ref 686, .ref 687, .ref 688, .int 1079 0, .int 567 0, .str (Str.ofString "/claim/cut.py") 1080], #[]⟩) ::
  (nat_lit 690, ⟨.type "function", none, .func (fnOf (Str.ofString "read_token") (Str.ofString "shlex.read_token") ast_shlex_read_token.1.1 ast_shlex_read_token.1.2.1 ast_shlex_read_token.1.2.2 (.none) .none (.none) (.str (Str.ofString "cpy313.shlex") 1001) none (.ref 689) .none), #[]⟩) ::
  (nat_lit 711, ⟨.type "code", none, .fields #[.str (Str.ofString "__iter__") 1099, .str (Str.ofString "shlex.__iter__") 1100, .str (Str.ofString "/claim/cut.py") 1101, .int 714 0, .int 1 0, .int 0 0, .int 0 0, .int 3 0, .ref 706, .bool true, .int 273 0, .ref 707, .none, .ref 708, .ref 709, .ref 710, .int 1103 0, .int 714 0, .str (Str.ofString "/claim/cut.py") 1104], #[]⟩) ::
  (nat_lit 712, ⟨.type "function", none, .func (fnOf (Str.ofString "__iter__") (Str.ofString "shlex.__iter__") ast_shlex_iter.1.1 ast_shlex_iter.1.2.1 ast_shlex_iter.1.2.2 (.none) .none (.none) (.str (Str.ofString "cpy313.shlex") 1001) none (.ref 711) .none), #[]⟩) ::
  (nat_lit 718, ⟨.type "code", none, .fields #[.str (Str.ofString "__next__") 1106, .str (Str.ofString "shlex.__next__") 1107, .str (Str.ofString "/claim/cut.py") 1108, .int 717 0, .int 1 0, .int 0 0, .int 0 0, .int 3 0, .ref 713, .bool true, .int 273 0, .ref 714, .none, .ref 715, .ref 716, .ref 717, .int 1111 0, .int 717 0, .str (Str.ofString "/claim/cut.py") 1112], #[]⟩) ::
  (nat_lit 719, ⟨.type "function", none, .func (fnOf (Str.ofString "__next__") (Str.ofString "shlex.__next__") ast_shlex_next.1.1 ast_shlex_next.1.2.1 ast_shlex_next.1.2.2 (.none) .none (.none) (.str (Str.ofString "cpy313.shlex") 1001) none (.ref 718) .none), #[]⟩) ::
  (nat_lit 721, ⟨.type "dict", none, .dict #[⟨PyData.keyHash P (Str.ofString "__module__"), .str (Str.ofString "__module__") 1010, .str (Str.ofString "cpy313.shlex") 1001⟩, ⟨PyData.keyHash P (Str.ofString "__firstlineno__"), .str (Str.ofString "__firstlineno__") 1014, .int 470 1013⟩, ⟨PyData.keyHash P (Str.ofString "__init__"), .str (Str.ofString "__init__") 1026, .ref 646⟩, ⟨PyData.keyHash P (Str.ofString "punctuation_chars"), .str (Str.ofString "punctuation_chars") 1034, .ref 654⟩, ⟨PyData.keyHash P (Str.ofString "push_token"), .str (Str.ofString "push_token") 1042, .ref 661⟩, ⟨PyData.keyHash P (Str.ofString "push_source"), .str (Str.ofString "push_source") 1051, .ref 669⟩, ⟨PyData.keyHash P (Str.ofString "pop_source"), .str (Str.ofString "pop_source") 1058, .ref 676⟩, ⟨PyData.keyHash P (Str.ofString "get_token"), .str (Str.ofString "get_token") 1070, .ref 683⟩, ⟨PyData.keyHash P (Str.ofString "read_token"), .str (Str.ofString "read_token") 1081, .ref 690⟩, ⟨PyData.keyHash P (Str.ofString "sourcehook"), .str (Str.ofString "sourcehook") 1089, .ref 697⟩, ⟨PyData.keyHash P (Str.ofString "error_leader"), .str (Str.ofString "error_leader") 1098, .ref 705⟩, ⟨PyData.keyHash P (Str.ofString "__iter__"), .str (Str.ofString "__iter__") 1105, .ref 712⟩, ⟨PyData.keyHash P (Str.ofString "__next__"), .str (Str.ofString "__next__") 1113, .ref 719⟩, ⟨PyData.keyHash P (Str.ofString "__static_attributes__"), .str (Str.ofString "__static_attributes__") 1134, .ref 720⟩, ⟨PyData.keyHash P (Str.ofString "__dict__"), .str (Str.ofString "__dict__") 1136, .ref 723⟩, ⟨PyData.keyHash P (Str.ofString "__weakref__"), .str (Str.ofString "__weakref__") 1138, .ref 724⟩, ⟨PyData.keyHash P (Str.ofString "__doc__"), .str (Str.ofString "__doc__") 1139, .none⟩] 4, #[]⟩) ::
  (nat_lit 722, ⟨.type "type", none, .cls { name := (Str.ofString "shlex"), bases := [.type "object"], mro := [.ref 722, .type "object"], ns := 721, qualname := (Str.ofString "shlex"), hasDict := true, slotNames := [], subclasses := [], abstract := false, collection := none, hasDel := false }, #[none, none, (some (.str (Str.ofString "shlex") 1003)), (some (.str (Str.ofString "shlex") 1011)), (some (.builtin "object.__new__")), (some (.bool true))]⟩) ::
  (nat_lit 732, ⟨.type "code", none, .fields #[.str (Str.ofString "_law_digits") 1144, .str (Str.ofString "_law_digits") 1145, .str (Str.ofString "/claim/cut.py") 1146, .int 723 0, .int 1 0, .int 0 0, .int 0 0, .int 3 0, .ref 727, .bool true, .int 273 0, .ref 728, .none, .ref 729, .ref 730, .ref 731, .int 1150 0, .int 723 0, .str (Str.ofString "/claim/cut.py") 1151], #[]⟩) ::
  (nat_lit 733, ⟨.type "function", none, .func (fnOf (Str.ofString "_law_digits") (Str.ofString "_law_digits") ast__law_digits.1.1 ast__law_digits.1.2.1 ast__law_digits.1.2.2 (.none) .none (.none) (.str (Str.ofString "law_io0017_01") 1142) none (.ref 732) .none), #[]⟩) ::
  (nat_lit 739, ⟨.type "code", none, .fields #[.str (Str.ofString "_law_part") 1153, .str (Str.ofString "_law_part") 1154, .str (Str.ofString "/claim/cut.py") 1155, .int 732 0, .int 2 0, .int 0 0, .int 0 0, .int 3 0, .ref 734, .bool true, .int 273 0, .ref 735, .none, .ref 736, .ref 737, .ref 738, .int 1158 0, .int 732 0, .str (Str.ofString "/claim/cut.py") 1159], #[]⟩) ::
  (nat_lit 740, ⟨.type "function", none, .func (fnOf (Str.ofString "_law_part") (Str.ofString "_law_part") ast__law_part.1.1 ast__law_part.1.2.1 ast__law_part.1.2.2 (.none) .none (.none) (.str (Str.ofString "law_io0017_01") 1142) none (.ref 739) .none), #[]⟩) ::
  (nat_lit 746, ⟨.type "code", none, .fields #[.str (Str.ofString "_law_take") 1161, .str (Str.ofString "_law_take") 1162, .str (Str.ofString "/claim/cut.py") 1163, .int 746 0, .int 3 0, .int 0 0, .int 0 0, .int 3 0, .ref 741, .bool true, .int 273 0, .ref 742, .none, .ref 743, .ref 744, .ref 745, .int 1168 0, .int 746 0, .str (Str.ofString "/claim/cut.py") 1169], #[]⟩) ::
  (nat_lit 747, ⟨.type "function", none, .func (fnOf (Str.ofString "_law_take") (Str.ofString "_law_take") ast__law_take.1.1 ast__law_take.1.2.1 ast__law_take.1.2.2 (.none) .none (.none) (.str (Str.ofString "law_io0017_01") 1142) none (.ref 746) .none), #[]⟩) ::
  (nat_lit 751, ⟨.type "code", none, .fields #[.str (Str.ofString "law") 1171, .str (Str.ofString "law") 1172, .str (Str.ofString "/claim/cut.py") 1173, .int 765 0, .int 1 0, .int 0 0, .int 0 0, .int 3 0, .ref 748, .bool true, .int 273 0, .ref 749, .none, .none, .none, .ref 750, .int 1174 0, .int 765 0, .str (Str.ofString "/claim/cut.py") 1175], #[]⟩) ::
  (nat_lit 752, ⟨.type "function", none, .func (fnOf (Str.ofString "law") (Str.ofString "law") ast_law.1.1 ast_law.1.2.1 ast_law.1.2.2 (.none) .none (.none) (.str (Str.ofString "law_io0017_01") 1142) none (.ref 751) .none), #[]⟩) :: List.nil
noncomputable abbrev fragAt : List Addr := nat_lit 2 :: nat_lit 3 :: nat_lit 52 :: nat_lit 53 :: nat_lit 79 :: nat_lit 80 :: nat_lit 82 :: nat_lit 83 :: nat_lit 84 :: nat_lit 109 :: nat_lit 110 :: nat_lit 340 :: nat_lit 350 :: nat_lit 356 :: nat_lit 357 :: nat_lit 363 :: nat_lit 364 :: nat_lit 370 :: nat_lit 371 :: nat_lit 384 :: nat_lit 385 :: nat_lit 526 :: nat_lit 532 :: nat_lit 533 :: nat_lit 534 :: nat_lit 540 :: nat_lit 541 :: nat_lit 586 :: nat_lit 587 :: nat_lit 639 :: nat_lit 645 :: nat_lit 646 :: nat_lit 652 :: nat_lit 653 :: nat_lit 654 :: nat_lit 682 :: nat_lit 683 :: nat_lit 689 :: nat_lit 690 :: nat_lit 711 :: nat_lit 712 :: nat_lit 718 :: nat_lit 719 :: nat_lit 721 :: nat_lit 722 :: nat_lit 732 :: nat_lit 733 :: nat_lit 739 :: nat_lit 740 :: nat_lit 746 :: nat_lit 747 :: nat_lit 751 :: nat_lit 752 :: List.nil
/-! texts as lists of codes -/
def S (l : List Nat) : Str := ⟨l.toArray⟩
theorem S_len (l : List Nat) : (S l).length = l.length := by simp [S, Str.length]
theorem S_list (l : List Nat) : (S l).cps.toList = l := rfl
theorem S_of (x : Str) : S x.cps.toList = x := rfl
theorem S_append (a b : List Nat) : S a ++ S b = S (a ++ b) := Str.ext' (by rw [Str.cps_append]; simp [S])
theorem len_list (x : Str) : x.length = x.cps.toList.length := by simp [Str.length]
theorem slice_nat (x : Str) {a b : Nat} (hab : a ≤ b) (hb : b ≤ x.length) : Txt.slice x (some (a : Int)) (some (b : Int)) = S ((x.cps.toList.drop a).take (b - a)) := by
  have h := StrLaws.sliced_plain x hab hb
  unfold Txt.slice
  split
  · rename_i e
    simp only [beq_self_eq_true, Bool.true_and, beq_iff_eq] at e
    rw [StrLaws.strSliceIndices_plain hab hb] at e
    simp only [List.length_map, List.length_range] at e
    have h0 : a = 0 := by omega
    have h1 : b = x.length := by omega
    subst h0 h1
    rw [List.drop_zero, Nat.sub_zero, len_list, List.take_length]
    exact (S_of x).symm
  · rw [h]; rfl
theorem slice_last (x : Str) {n : Nat} (h : x.length = n + 1) : Txt.slice x none (some (-1)) = S (x.cps.toList.take n) := by
  have e : Txt.slice x none (some (-1)) = Txt.slice x (some ((0 : Nat) : Int)) (some ((n : Nat) : Int)) := by
    unfold Txt.slice
    rw [StrLaws.sliceIdx_none_lo, StrLaws.sliceIdx_neg_hi _ x.length (by omega) (by omega), h]
    have : (-1 : Int) + ((n + 1 : Nat) : Int) = (n : Int) := by omega
    rw [this]; rfl
  rw [e, slice_nat x (Nat.zero_le n) (by omega)]
  simp
theorem slice_back (l : List Nat) : Txt.slice (S l ++ Str.ofString " ") none (some (-1)) = S l := by
  have e : S l ++ Str.ofString " " = S (l ++ [32]) := by
    rw [show Str.ofString " " = S [32] from by decide +kernel, S_append]
  rw [e, slice_last (n := l.length) _ (by rw [S_len]; simp), S_list]
  simp
/-- behind p of the text x the codes r are left -/
def At (x : Str) (p : Nat) (r : List Nat) : Prop := x.cps.toList.drop p = r ∧ p ≤ x.length
theorem At.len {x : Str} {p : Nat} {r : List Nat} (h : At x p r) : p + r.length = x.length := by
  have := h.2
  rw [← h.1, List.length_drop, ← len_list]; omega
theorem At.tail {x : Str} {p c : Nat} {r : List Nat} (h : At x p (c :: r)) : At x (p + 1) r := by
  have e := h.len
  refine ⟨?_, by rw [List.length_cons] at e; omega⟩
  rw [← List.drop_drop, h.1]; rfl
theorem At.more {x : Str} {p : Nat} {l r : List Nat} (h : At x p (l ++ r)) : At x (p + l.length) r := by
  have e := h.len
  refine ⟨?_, by rw [List.length_append] at e; omega⟩
  rw [← List.drop_drop, h.1]; simp
theorem At.read1 {x : Str} {p c : Nat} {r : List Nat} (h : At x p (c :: r)) : Txt.slice (Txt.slice x (some (p : Int)) (some ((p : Int) + 1)) ++ Str.ofString " ") none (some (-1)) = S [c] := by
  have e := h.len
  rw [List.length_cons] at e
  have q : ((p : Int) + 1) = ((p + 1 : Nat) : Int) := by omega
  rw [q, slice_nat x (by omega) (by omega), h.1, show p + 1 - p = 1 from by omega]
  exact slice_back [c]
theorem At.readEnd {x : Str} {p c : Nat} {r : List Nat} (h : At x p (c :: r)) (hz : ¬ ((p : Int) + 1 < (x.length : Int))) : Txt.slice (Txt.slice x (some (p : Int)) (some (x.length : Int)) ++ Str.ofString " ") none (some (-1)) = S [c] := by
  have e := h.len
  rw [List.length_cons] at e
  rw [slice_nat x (by omega) (Nat.le_refl _), h.1, show x.length - p = 1 from by omega]
  exact slice_back [c]
section
open PySem.Builtin PySem.Builtin.Str
theorem gives_find4 (x y : Str) (i : Int) (t u v q : Tok) : Gives («str.find» ⟨[.str x t, .str y u, .int i v, .int (x.length : Int) q], []⟩) (.int (Txt.find3 x y i)) := by
  have e : min (max 0 (if (x.length : Int) < 0 then (x.length : Int) + x.length else (x.length : Int))).toNat x.length = x.length := by
    rw [if_neg (by omega)]; omega
  show Gives (match occurrences x y (fromIndex x.length i) (min (max 0 (if (x.length : Int) < 0 then (x.length : Int) + x.length else (x.length : Int))).toNat x.length) 1 with | k :: _ => retInt k | [] => (do rule "str.find.not-found"; retInt (-1))) _
  rw [e]
  unfold Txt.find3
  cases occurrences x y (fromIndex x.length i) x.length 1 with
  | nil => exact .rule (.of_eq rfl)
  | cons k _ => exact .of_eq rfl
theorem call_find4 {prog : Program} {w : World} {A : Around} {E : Value → Shared → Prop} {s : Shared} {x y : Str} {i : Int} {t u v q : Tok} {Q : Value → Shared → Prop} (hq : Q (.int (Txt.find3 x y i) s.toks) { s with toks := s.toks + 1 }) :
    wpAny (model prog w) A (call (.builtin "str.find") [.str x t, .str y u, .int i v, .int (x.length : Int) q]) Q E s :=
  call_gives F.slot_str_find (typeIs_str _ _ _) F.entry_str_find (F.args_str_find_4 _ _ _ _) (gives_find4 x y i t u v q) hq
theorem At.getD {x : Str} {p k c : Nat} {r : List Nat} (h : At x p r) (hk : r[k]? = some c) : x.cps.getD (p + k) 0 = c := by
  refine StrLaws.getD_of_getElem? ?_
  rw [← h.1, List.getElem?_drop] at hk
  exact hk
theorem At.find {x : Str} {p c : Nat} {r : List Nat} (h : At x p (c :: 10 :: r)) (hc : c ≠ 10) : Txt.find3 x (Str.ofString "\n") (p : Int) = (p : Int) + 1 := by
  have e := h.len
  simp only [List.length_cons] at e
  have g0 := h.getD (k := 0) rfl
  have g1 := h.getD (k := 1) rfl
  have ef : fromIndex x.length (p : Int) = p := by
    unfold fromIndex
    rw [if_neg (by omega)]; omega
  rw [show Str.ofString "\n" = ⟨#[10]⟩ from by decide +kernel]
  rcases StrLaws.find3_spec x 10 (p : Int) with ⟨_, hn⟩ | ⟨k, hk, h1, h2, h3, h4⟩
  · exact absurd g1 (hn (p + 1) (by rw [ef]; omega) (by omega))
  · rw [ef] at h1 h4
    rw [hk]
    have : k = p + 1 := by
      rcases Nat.lt_or_ge (p + 1) k with q | q
      · exact absurd g1 (h4 (p + 1) (by omega) q)
      · rcases Nat.lt_or_ge p k with q' | q'
        · omega
        · have : k = p := by omega
          subst this
          exact absurd (g0.symm.trans h3) hc
    omega
theorem At.findEnd {x : Str} {p c : Nat} (h : At x p [c]) (hc : c ≠ 10) : Txt.find3 x (Str.ofString "\n") (p : Int) = -1 := by
  have e := h.len
  simp only [List.length_cons, List.length_nil] at e
  have g0 := h.getD (k := 0) rfl
  have ef : fromIndex x.length (p : Int) = p := by
    unfold fromIndex
    rw [if_neg (by omega)]; omega
  rw [show Str.ofString "\n" = ⟨#[10]⟩ from by decide +kernel]
  rcases StrLaws.find3_spec x 10 (p : Int) with ⟨q, _⟩ | ⟨k, hk, h1, h2, h3, h4⟩
  · exact q
  · rw [ef] at h1
    have : k = p := by omega
    subst this
    exact absurd (g0.symm.trans h3) hc
end
/-! the top's run over a tree of objects, whole, in one look -/
noncomputable def topRunT (tb : String → Option Builtin) (p : Program) (w : World) (n₀ : Nat) (ann : Option Value) : Nat → SharedT → Thread → Option SharedT
  | 0, _, _ => none
  | n + 1, s, t => match through t with
    | true => some s
    | false => match stepOk n₀ ann t with
      | false => none
      | true => match stepT (denote tb) p w s t with
        | some (s', t') => topRunT tb p w n₀ ann n s' t'
        | none => none
theorem topRun_of {tb : String → Option Builtin} {p : Program} {w : World} {n₀ : Nat} {ann : Option Value} : ∀ {n : Nat} {s s' : SharedT} {t : Thread}, topRunT tb p w n₀ ann n s t = some s' → topRun tb p w n₀ ann n s.abs t = some s'.abs
  | 0, _, _, _, h => by cases h
  | n + 1, s, s', t, h => by
    unfold topRunT at h
    unfold topRun
    cases he : through t with
    | true => rw [he] at h; cases h; rfl
    | false =>
      rw [he] at h
      cases hk : stepOk n₀ ann t with
      | false => rw [hk] at h; cases h
      | true =>
        rw [hk] at h
        cases hs : stepT (denote tb) p w s t with
        | none => rw [hs] at h; cases h
        | some r => obtain ⟨s₂, t₂⟩ := r; rw [hs] at h; rw [stepT_spec hs]; exact topRun_of h
noncomputable def impEndsT (tb : String → Option Builtin) (p : Program) (w : World) : Nat → SharedT → Thread → Option SharedT
  | 0, _, _ => none
  | n + 1, s, t => match t.atExitBegin with
    | some [] => some s
    | some (_ :: _) => none
    | none => match stepT (denote tb) p w s t with
      | some (s', t') => impEndsT tb p w n s' t'
      | none => none
theorem impEnds_of {tb : String → Option Builtin} {p : Program} {w : World} : ∀ {n : Nat} {s s' : SharedT} {t : Thread}, impEndsT tb p w n s t = some s' → importEnds tb p w n s.abs t = some s'.abs
  | 0, _, _, _, h => by cases h
  | n + 1, s, s', t, h => by
    unfold impEndsT at h
    unfold importEnds
    cases he : t.atExitBegin with
    | some l => rw [he] at h; cases l <;> cases h; rfl
    | none =>
      rw [he] at h
      cases hs : stepT (denote tb) p w s t with
      | none => rw [hs] at h; cases h
      | some r => obtain ⟨s₂, t₂⟩ := r; rw [hs] at h; dsimp only; rw [stepT_spec hs]; exact impEnds_of h
noncomputable def insAll : BT → Nat → List Obj → Option (BT × Nat)
  | t, n, [] => some (t, n)
  | t, n, o :: r => match ((t.ins n o).get n).isSome with
    | true => insAll (t.ins n o) (n + 1) r
    | false => none
theorem insAll_spec {life : Life} : ∀ {l : List Obj} {t t' : BT} {n n' : Nat}, insAll t n l = some (t', n') → absHeap t' n' life = ⟨(absHeap t n life).objs ++ l.toArray, life⟩
  | [], t, t', n, n', h => by cases h; show absHeap _ _ _ = Heap.mk _ _; rw [Array.append_empty]; rfl
  | o :: r, t, t', n, n', h => by
    unfold insAll at h
    cases g : ((t.ins n o).get n).isSome with
    | false => rw [g] at h; cases h
    | true =>
      rw [g] at h
      rw [insAll_spec (life := life) h, absHeap_ins g]
      show Heap.mk _ _ = Heap.mk _ _
      congr 1
      show (absHeap t n life).objs.push o ++ r.toArray = (absHeap t n life).objs ++ (o :: r).toArray
      apply Array.ext'
      simp
noncomputable def treed (s : Shared) : Option SharedT := (insAll .nil 0 s.heap.objs.toList).map fun t => ⟨t.1, t.2, s.heap.life, s.gens, s.drawn, s.toks, s.os⟩
theorem treed_spec {s : Shared} {t : SharedT} (h : treed s = some t) : t.abs = s := by
  obtain ⟨⟨hp, life⟩, g, d, k, os⟩ := s
  obtain ⟨⟨a, n⟩, ha, rfl⟩ := Option.map_eq_some_iff.mp h
  have e := insAll_spec (life := life) ha
  show (⟨absHeap a n life, g, d, k, os⟩ : Shared) = _
  rw [e]
  have z : (absHeap .nil 0 life).objs = #[] := rfl
  rw [z]
  simp
noncomputable def openEndsT (tb : String → Option Builtin) (p : Program) (w : World) (N : Nat) : Option SharedT :=
  (treed (start (opening p)).1).bind fun a => (impEndsT tb (opening p) w N a (start (opening p)).2).bind fun b => (fenceModules? p b.abs).bind fun s₀ => match s₀.heap.isNs mainGlobals && s₀.gens.size == 0 with
    | true => (treed s₀).bind fun c => (topRunT tb p w s₀.heap.objs.size (s₀.heap.nsMap mainGlobals "__annotations__") N c (topStub p)).bind fun d =>
      match staticsOk (importedModules p.main.body) s₀.heap d.abs.heap && namesBound p d.abs.heap && gensDone d.abs && laidKept s₀.heap d.abs.heap with
      | true => some d
      | false => none
    | false => none
theorem openEnds_of {tb : String → Option Builtin} {p : Program} {w : World} {N : Nat} {d : SharedT} (h : openEndsT tb p w N = some d) : openEnds tb p w N = some d.abs := by
  obtain ⟨a, h1, h⟩ := Option.bind_eq_some_iff.mp h
  obtain ⟨b, h2, h⟩ := Option.bind_eq_some_iff.mp h
  obtain ⟨s₀, h3, h⟩ := Option.bind_eq_some_iff.mp h
  have e2 := impEnds_of h2
  rw [treed_spec h1] at e2
  unfold openEnds fencedOpening
  rw [e2]
  show ((fenceModules? p b.abs).bind _) = _
  rw [h3]
  show topFrom tb p w N s₀ = _
  unfold topFrom
  cases hg : (s₀.heap.isNs mainGlobals && s₀.gens.size == 0) with
  | false => rw [hg] at h; cases h
  | true =>
    rw [hg] at h
    obtain ⟨c, h4, h⟩ := Option.bind_eq_some_iff.mp h
    obtain ⟨d', h5, h⟩ := Option.bind_eq_some_iff.mp h
    have e5 := topRun_of h5
    rw [treed_spec h4] at e5
    show (topRun tb p w _ _ N s₀ (topStub p)).bind _ = _
    rw [e5]
    show (match staticsOk (importedModules p.main.body) s₀.heap d'.abs.heap && namesBound p d'.abs.heap && gensDone d'.abs && laidKept s₀.heap d'.abs.heap with | true => some d'.abs | false => none) = _
    cases hs : (staticsOk (importedModules p.main.body) s₀.heap d'.abs.heap && namesBound p d'.abs.heap && gensDone d'.abs && laidKept s₀.heap d'.abs.heap) with
    | false => rw [hs] at h; cases h
    | true => rw [hs] at h; cases h; rfl
theorem leftO_T {p q : Program} {loose : List Str} {Xt : Shared → Bool} {α : Type} {Yf : Shared → α} {Ya : World → α} {N : Nat} {g0 : Bool}
    (h : ∀ w, (openEndsT treeTable p w N).map (fun s => (openSeen q loose (importedModules p.main.body) Xt g0 s.abs, Yf s.abs)) = some (openGood q loose, Ya w)) : LeftO p q loose Xt Yf Ya N g0 := fun w => by
  obtain ⟨d, hd, e⟩ := Option.map_eq_some_iff.mp (h w)
  rw [openEnds_of hd]
  exact congrArg some e
noncomputable def beside {α β : Type} (a : α) (_ : β) : α := a
noncomputable def lawView : Program := { Challenge.pw_io0017_01 with main := { Challenge.pw_io0017_01.main with body := [stmtAt Challenge.pw_io0017_01.main.body 24] } }
noncomputable def looseN : List Str := [Str.ofString "deque", Str.ofString "_wall", Str.ofString "_whence", Str.ofString "_index", Str.ofString "UnsupportedOperation", Str.ofString "IOBase", Str.ofString "BufferedIOBase", Str.ofString "TextIOBase", Str.ofString "BytesIO", Str.ofString "StringIO", Str.ofString "_kind", Str.ofString "_fspath", Str.ofString "_check_arg_types", Str.ofString "isabs", Str.ofString "join", Str.ofString "dirname", Str.ofString "shlex", Str.ofString "_law_digits", Str.ofString "_law_part", Str.ofString "_law_take"]
noncomputable def runSeen (p q : Program) (loose : List Str) (Xt : Shared → Bool) (as : List Addr) (N : Nat) (w : World) := (openEndsT treeTable p w N).map fun s => (openSeen q loose (importedModules p.main.body) Xt true s.abs, as.map s.abs.heap.get?)
theorem runSeen_self : @runSeen = @runSeen := rfl
name_quick runQ for Mine.runSeen by Mine.runSeen_self
noncomputable abbrev seenX (s : Shared) : Bool := xlAt lawView [] s && recOk [] s
theorem left1 : ∀ w, beside (PySem.W.Fast.runQ Challenge.pw_io0017_01 lawView looseN seenX fragAt 10000 w)
   ((#[some (openGood lawView looseN, (frag w.params).map fun x => some x.2)] : Array (Option _))[0]?) = some (openGood lawView looseN, (frag w.params).map fun x => some x.2) := fun w => by
  k_slotget
theorem of_beside {α β : Type} {a c : α} {b : β} (h : beside a b = c) : a = c := h
theorem left0 : ∀ w, runSeen Challenge.pw_io0017_01 lawView looseN seenX fragAt 10000 w = some (openGood lawView looseN, (frag w.params).map fun x => some x.2) := fun w =>
  (congrFun (congrFun (congrFun (congrFun (congrFun (congrFun (congrFun PySem.W.Fast.runQ_eq Challenge.pw_io0017_01) lawView) looseN) seenX) fragAt) 10000) w).trans (of_beside (left1 w))
noncomputable abbrev lawHook : Hook := kHook frag fragAt fun _ => rfl
theorem left : LeftO Challenge.pw_io0017_01 lawView looseN seenX lawHook.obs lawHook.val 10000 := leftO_T left0
theorem resolve_self : @namesResolve = @namesResolve := rfl
name_quick resolveQ for PySem.W.namesResolve by Mine.resolve_self
theorem meet_self : @namesMeet = @namesMeet := rfl
name_quick meetQ for PySem.W.namesMeet by Mine.meet_self
theorem reads_self : @readsOut = @readsOut := rfl
name_quick readsQ for PySem.W.readsOut by Mine.reads_self
theorem road_self : @noRoadLSs = @noRoadLSs := rfl
name_quick roadQ for PySem.W.noRoadLSs by Mine.road_self
theorem reads_of {n : Str} {b : Bool} (h : PySem.W.Fast.readsQ Challenge.rw_io0017_01.row.prog Challenge.rw_io0017_01.row.prog.main.body n = b) : readsOut Challenge.rw_io0017_01.row.prog Challenge.rw_io0017_01.row.prog.main.body n = b := (congrFun (congrFun (congrFun PySem.W.Fast.readsQ_eq _) _) _).trans h
theorem reads1 : readsOut Challenge.rw_io0017_01.row.prog Challenge.rw_io0017_01.row.prog.main.body (Str.ofString "vars") = false := reads_of (by decide +kernel)
theorem reads2 : readsOut Challenge.rw_io0017_01.row.prog Challenge.rw_io0017_01.row.prog.main.body (Str.ofString "dir") = false := reads_of (by decide +kernel)
theorem reads3 : readsOut Challenge.rw_io0017_01.row.prog Challenge.rw_io0017_01.row.prog.main.body (Str.ofString "locals") = false := reads_of (by decide +kernel)
theorem filter3 {f : Str → Bool} {a b c : Str} (h1 : f a = false) (h2 : f b = false) (h3 : f c = false) : List.filter f [a, b, c] = [] := by
  simp only [List.filter, h1, h2, h3]
theorem road_bare {S : Bool} {l r : List Str} {B : List Stmt} (h : l = r) (k : noRoadLSs { strict := S, foot := none, bare := r } B = true) : noRoadLSs { strict := S, foot := none, bare := l } B = true := h ▸ k
theorem said : Challenge.rw_io0017_01.wellSaid = true := by
  unfold OpenLaw.wellSaid OpenRow.wellSaid OpenRow.partSaid looksOpen
  repeat' with_reducible refine look_both ?_ ?_
  all_goals first
    | (with_reducible refine (congrFun PySem.W.Fast.resolveQ_eq _).trans ?_)
    | (with_reducible refine (congrFun (congrFun (congrFun PySem.W.Fast.meetQ_eq _) _) _).trans ?_)
    | (with_reducible refine road_bare (filter3 reads1 reads2 reads3) ?_; with_reducible refine (congrFun (congrFun PySem.W.Fast.roadQ_eq _) _).trans ?_)
    | (with_reducible refine (congrFun (congrFun PySem.W.Fast.roadQ_eq _) _).trans ?_)
    | skip
  all_goals decide +kernel
section
theorem fill : (Challenge.rw_io0017_01, frag) = (Challenge.rw_io0017_01, frag) := by k_fill; rfl
local macro_rules | `(tactic| k_room) => `(tactic| ktr_room)
local macro_rules | `(tactic| k_units) => `(tactic| ktr_units)
local macro_rules | `(tactic| walk_at "call builtin:len") => `(tactic| ((with_reducible show wpAny _ _ (call (Value.builtin "len") [Value.str _ _]) _ _ _); refine SBL.len (by omega) ?_))
local macro_rules | `(tactic| k_all) => `(tactic| exact OwnOff.ne (by assumption) (by k_memK))
local macro_rules | `(tactic| ktr_enter) => `(tactic| (refine' code_def ?k1 ?k2 ?k3 ?k4 ?k5 ?kA ?kF ?kK ?k6 ?k7 ?k8 ?k9 ?kB ?_ ?c2 ?c3 ?c4 ?c5; (case kA => exact rfl); (case kF => exact rfl); (case kK => assumption); (case k1 => k_asm); (case k2 => k_asm); (case k3 => k_asm); (case k4 => k_asm); (case k5 => k_asm); (case k6 => k_is); (case k7 => k_is); (case k8 => ktr_room); (case k9 => first | exact BindsTo.of_eq rfl | exact binds_K (by k_in) rfl (by k_is) rfl rfl rfl); (case c5 => decide); (case kB => exact locs rfl); (case c2 => exact rfl); (case c3 => exact rfl); (case c4 => exact rfl); k_whole; intro g' L' h' FG' F' N' B' X' T'; (try dsimp only); (try k_fold)))
local macro_rules | `(tactic| walk_at "call builtin:str.find") => `(tactic| ((with_reducible show wpAny _ _ (call (Value.builtin "str.find") [Value.str _ _, Value.str _ _, Value.int _ _, Value.int _ _]) _ _ _); refine call_find4 ?_))
local macro_rules | `(tactic| walk_at "ite") => `(tactic| (k_closed; with_reducible first | refine ite_pos (by decide) ?_ | refine ite_neg (by decide) ?_))
abbrev sioO (P : Params) (D : Nat → Tok) (x : Str) (p : Int) (tp : Tok) : Obj := dictOf [⟨PyData.keyHash P (Str.ofString "_StringIO__newline"), .str (Str.ofString "_StringIO__newline") (D 1), .str (Str.ofString "\n") (D 4)⟩,
  ⟨PyData.keyHash P (Str.ofString "_StringIO__buf"), .str (Str.ofString "_StringIO__buf") (D 2), .str x (D 5)⟩, ⟨PyData.keyHash P (Str.ofString "_StringIO__pos"), .str (Str.ofString "_StringIO__pos") (D 3), .int p tp⟩] 3
section
variable {prog : Program} {w : World} {p : Program} {loose : List Str} {mean : ExcName → Option Value} {mg mb : Str → Option Value} {dp un : Nat} {gd : Option (List Code)} {cn : Str} {cs : Scope} {a : Addr} {ccd : Value} {cl : List (Str × Addr)} {outer : List Env} {A₀ : Around} {base h₀ : Heap} {L : Addr} {m : Str → Option Value} {sh : Heap} {sg : Array GenState} {sd : Drawn} {sk : Nat} {so : OsState} {Q E : Value → Shared → Prop} {rest : List (Addr × Obj)}
theorem read1 {ia ida : Addr} {x : Str} {n : Nat} {r : List Nat} {tp t4 : Tok} {D : Nat → Tok}
    (B : Below A₀ base outer h₀) (F : Fr h₀ L sh m) (X : (frag w.params).In h₀) (N : News h₀ L sh ((ia, instObj 587 ida) :: (ida, sioO w.params D x (n : Int) tp) :: rest)) (off : OwnOff rest [ia, ida]) (T : Top p loose mean mg mb h₀) (hk : cs.kind = .function)
    (hat : At x n r) (hz : x.length ≤ 100000) (hlt : @LT.lt Nat _ ida ia) (hd : dp + 4 < recursionLimit)
    (hret : ∀ h' tk' t' tp', Fr h₀ L h' m → News h₀ L h' ((ia, instObj 587 ida) :: (ida, sioO w.params D x ((n + (r.take 1).length : Nat) : Int) tp') :: rest) → Q (.str (S (r.take 1)) t') ⟨h', sg, sd, tk', so⟩) :
    wpAny (model prog w) (ktrTop dp un gd cn cs L a ccd cl outer) (call (.ref 533) [.ref ia, .int 1 t4]) Q E ⟨sh, sg, sd, sk, so⟩ := by
  have hlen := hat.len
  have hret' : ∀ h' tk' v t' tp' q, Fr h₀ L h' m → News h₀ L h' ((ia, instObj 587 ida) :: (ida, sioO w.params D x q tp') :: rest) → q = ((n + (r.take 1).length : Nat) : Int) → v = S (r.take 1) → Q (.str v t') ⟨h', sg, sd, tk', so⟩ := by
    rintro h' tk' _ t' tp' _ F' N' rfl rfl
    exact hret h' tk' t' tp' F' N'
  refine wpAny_call ?_
  k_dflt ktr_enter
  k_steps
  all_goals
    cases r with
    | nil =>
      rw [List.length_nil] at hlen
      first
      | omega
      | (refine hret' _ _ _ _ _ _ (by assumption) (by assumption) (by rw [List.take_nil, List.length_nil]; rfl) ?_
         rw [show Str.ofString "" = S [] from by decide +kernel, List.take_nil])
    | cons c r =>
      rw [List.length_cons] at hlen
      first
      | omega
      | (refine hret' _ _ _ _ _ _ (by assumption) (by assumption) (by rw [List.take_succ_cons, List.take_zero, List.length_cons, List.length_nil]; omega) ?_
         rw [List.take_succ_cons, List.take_zero]
         first | rw [hat.read1] | rw [hat.readEnd (by omega)])
end
section
variable {prog : Program} {w : World} {p : Program} {loose : List Str} {mean : ExcName → Option Value} {mg mb : Str → Option Value} {dp un : Nat} {gd : Option (List Code)} {cn : Str} {cs : Scope} {a : Addr} {ccd : Value} {cl : List (Str × Addr)} {outer : List Env} {A₀ : Around} {base h₀ : Heap} {L : Addr} {m : Str → Option Value} {sh : Heap} {sg : Array GenState} {sd : Drawn} {sk : Nat} {so : OsState} {Q E : Value → Shared → Prop} {rest : List (Addr × Obj)}
/-- a line of one sign, with or without its end -/
theorem readline1 {ia ida : Addr} {x : Str} {c n : Nat} {r : List Nat} {tp : Tok} {D : Nat → Tok}
    (B : Below A₀ base outer h₀) (F : Fr h₀ L sh m) (X : (frag w.params).In h₀) (N : News h₀ L sh ((ia, instObj 587 ida) :: (ida, sioO w.params D x (n : Int) tp) :: rest)) (off : OwnOff rest [ia, ida]) (T : Top p loose mean mg mb h₀) (hk : cs.kind = .function)
    (hat : At x n (c :: r)) (hc : c ≠ 10) (hr : ∀ b ∈ r.head?, b = 10) (hz : x.length ≤ 100000) (hlt : @LT.lt Nat _ ida ia) (hd : dp + 4 < recursionLimit)
    (hret : ∀ v t' h' tk' tp', Fr h₀ L h' m → News h₀ L h' ((ia, instObj 587 ida) :: (ida, sioO w.params D x ((n + 1 + (r.take 1).length : Nat) : Int) tp') :: rest) → Q (.str v t') ⟨h', sg, sd, tk', so⟩) :
    wpAny (model prog w) (ktrTop dp un gd cn cs L a ccd cl outer) (call (.ref 541) [.ref ia]) Q E ⟨sh, sg, sd, sk, so⟩ := by
  have hlen := hat.len
  have hfind : (Txt.find3 x (Str.ofString "\n") (n : Int) = -1 ∧ x.length = n + 1 + (r.take 1).length) ∨ (Txt.find3 x (Str.ofString "\n") (n : Int) = (n : Int) + 1 ∧ (r.take 1).length = 1) := by
    cases r with
    | nil => exact .inl ⟨hat.findEnd hc, by simpa using hlen.symm⟩
    | cons b r =>
      have : b = 10 := hr b rfl
      subst this
      exact .inr ⟨hat.find hc, rfl⟩
  simp only [List.length_cons] at hlen
  have hret' : ∀ v t' h' tk' tp' q, Fr h₀ L h' m → News h₀ L h' ((ia, instObj 587 ida) :: (ida, sioO w.params D x q tp') :: rest) → q = ((n + 1 + (r.take 1).length : Nat) : Int) → Q (.str v t') ⟨h', sg, sd, tk', so⟩ := by
    rintro v t' h' tk' tp' _ F' N' rfl
    exact hret v t' h' tk' tp' F' N'
  refine wpAny_call ?_
  k_dflt ktr_enter
  k_steps
  all_goals first
    | exact hret' _ _ _ _ _ _ (by assumption) (by assumption) (by omega)
    | omega
end
noncomputable def whileBody : Stmt → List Stmt
  | .While _ b _ _ => b
  | _ => []
noncomputable def rtLoop : List Stmt := whileBody (stmtAt ast_shlex_read_token.1.2.1 2)
def eofV (px : Bool) (t : Tok) : Value := match px with
  | true => .none
  | false => .str (Str.ofString "") t
def wordsV (px : Bool) : Str := match px with
  | true => Str.ofString "abcdfeghijklmnopqrstuvwxyzABCDEFGHIJKLMNOPQRSTUVWXYZ0123456789_" ++ Str.ofString "ßàáâãäåæçèéêëìíîïðñòóôõöøùúûüýþÿÀÁÂÃÄÅÆÇÈÉÊËÌÍÎÏÐÑÒÓÔÕÖØÙÚÛÜÝÞ"
  | false => Str.ofString "abcdfeghijklmnopqrstuvwxyzABCDEFGHIJKLMNOPQRSTUVWXYZ0123456789_"
abbrev ent (P : Params) (k : Str) (t : Tok) (v : Value) : DictEntry := ⟨PyData.keyHash P k, .str k t, v⟩
abbrev lexE (P : Params) (D : Nat → Tok) (px : Bool) (ia pa fa : Addr) (st : Value) (ln : Int) (tl : Tok) (tk : Str) (tt : Tok) : List DictEntry := [ent P (Str.ofString "instream") (D 0) (.ref ia), ent P (Str.ofString "infile") (D 1) .none, ent P (Str.ofString "posix") (D 2) (.bool px),
  ent P (Str.ofString "eof") (D 3) (eofV px (D 23)), ent P (Str.ofString "commenters") (D 4) (.str (Str.ofString "#") (D 24)), ent P (Str.ofString "wordchars") (D 5) (.str (wordsV px) (D 25)), ent P (Str.ofString "whitespace") (D 6) (.str (Str.ofString " \t\r\n") (D 26)),
  ent P (Str.ofString "whitespace_split") (D 7) (.bool false), ent P (Str.ofString "quotes") (D 8) (.str (Str.ofString "'\"") (D 28)), ent P (Str.ofString "escape") (D 9) (.str (Str.ofString "\\") (D 29)), ent P (Str.ofString "escapedquotes") (D 10) (.str (Str.ofString "\"") (D 30)),
  ent P (Str.ofString "state") (D 11) st, ent P (Str.ofString "pushback") (D 12) (.ref pa), ent P (Str.ofString "lineno") (D 13) (.int ln tl), ent P (Str.ofString "debug") (D 14) (.int 0 (D 34)), ent P (Str.ofString "token") (D 15) (.str tk tt),
  ent P (Str.ofString "filestack") (D 16) (.ref fa), ent P (Str.ofString "source") (D 17) .none, ent P (Str.ofString "_punctuation_chars") (D 18) (.str (Str.ofString "") (D 38))]
abbrev lexO (P : Params) (D : Nat → Tok) (px : Bool) (ia pa fa : Addr) (st : Value) (ln : Int) (tl : Tok) (tk : Str) (tt : Tok) : Obj := dictOf (lexE P D px ia pa fa st ln tl tk tt) 19
abbrev dequeO (st : Int) (vs : List Value) : Obj := { cls := .type "collections.deque", data := .fields (#[.none, .int st 0] ++ vs.toArray) }
theorem offCons {own : List (Addr × Obj)} {p : Addr × Obj} {adr : List Addr} (h : ∀ b ∈ adr, p.1 ≠ b) (o : OwnOff own adr) : OwnOff (p :: own) adr := fun q hq b hb => by
  rcases List.mem_cons.mp hq with rfl | hq
  · exact h b hb
  · exact o q hq b hb
theorem offSub {own : List (Addr × Obj)} {adr adr' : List Addr} (o : OwnOff own adr) (h : ∀ b ∈ adr', b ∈ adr) : OwnOff own adr' := fun q hq b hb => o q hq b (h b hb)
/-- the lexer's addresses, in the order in which they are made -/
structure Ord6 (lda la ida ia pa fa : Nat) : Prop where
  a : lda < la
  b : la < ida
  c : ida < ia
  d : ia < pa
  e : pa < fa
theorem offRead {rest : List (Addr × Obj)} {lda la ida ia pa fa : Addr} {o1 o2 o3 o4 : Obj} (R : Ord6 lda la ida ia pa fa) (off : OwnOff rest [ia, ida, la, lda, pa, fa]) :
    OwnOff ((la, o1) :: (lda, o2) :: (pa, o3) :: (fa, o4) :: rest) [ia, ida] := by
  obtain ⟨a, b, c, d, e⟩ := R
  have two : ∀ z : Nat, z ≠ ia → z ≠ ida → ∀ q ∈ [ia, ida], z ≠ q := by
    intro z h1 h2 q hq
    rcases List.mem_cons.mp hq with rfl | hq
    · exact h1
    · rw [List.mem_singleton.mp hq]; exact h2
  refine offCons (two _ ?_ ?_) (offCons (two _ ?_ ?_) (offCons (two _ ?_ ?_) (offCons (two _ ?_ ?_) (offSub off fun q hq => ?_)))) <;> first | (dsimp only; omega) | skip
  rcases List.mem_cons.mp hq with rfl | hq
  · exact .head _
  · rw [List.mem_singleton.mp hq]; exact .tail _ (.head _)
def inB (x y : Str) : Bool := !(Builtin.Str.occurrences x y 0 x.length 1).isEmpty
theorem in_lit {prog : Program} {w : World} {A : Around} {E : Value → Shared → Prop} {sh : Heap} {sg : Array GenState} {sd : Drawn} {sk : Nat} {so : OsState} {x y : Str} {t u : Tok} {Q : Value → Shared → Prop} {b : Bool} (hb : inB x y = b) (h : Q (.bool b) ⟨sh, sg, sd, sk, so⟩) :
    wpAny (model prog w) A (compareOp .In (.str y u) (.str x t)) Q E ⟨sh, sg, sd, sk, so⟩ := in_str (by rw [show (!(Builtin.Str.occurrences x y 0 x.length 1).isEmpty) = b from hb]; exact h)
theorem eq_lit {prog : Program} {w : World} {A : Around} {E : Value → Shared → Prop} {sh : Heap} {sg : Array GenState} {sd : Drawn} {sk : Nat} {so : OsState} {x y : Str} {t u : Tok} {Q : Value → Shared → Prop} {b : Bool} (hb : (x == y) = b) (h : Q (.bool b) ⟨sh, sg, sd, sk, so⟩) :
    wpAny (model prog w) A (compareOp .Eq (.str x t) (.str y u)) Q E ⟨sh, sg, sd, sk, so⟩ := eq_str (by rw [hb]; exact h)
theorem truthy_lit {prog : Program} {w : World} {A : Around} {E : Value → Shared → Prop} {sh : Heap} {sg : Array GenState} {sd : Drawn} {sk : Nat} {so : OsState} {x : Str} {t : Tok} {Q : Bool → Shared → Prop} {b : Bool} (hz : x.length ≤ 100000) (hb : ((x.length : Int) != 0) = b) (h : ∀ k, Q b ⟨sh, sg, sd, k, so⟩) :
    wpAny (model prog w) A (truthy (.str x t)) Q E ⟨sh, sg, sd, sk, so⟩ := SBL.truthy (by omega) (by rw [hb]; exact h _)

section
variable {prog : Program} {w : World} {dp un : Nat} {gd : Option (List Code)} {cn : Str} {cs : Scope} {L a : Addr} {ccd : Value} {cl : List (Str × Addr)} {outer : List Env} {h₀ : Heap} {m : Str → Option Value} {sh : Heap} {sg : Array GenState} {sd : Drawn} {sk : Nat} {so : OsState} {E : Value → Shared → Prop} {rest : List (Addr × Obj)} {A : Around}
  {px : Bool} {la lda ia ida pa fa : Addr} {D : Nat → Tok} {tl tt : Tok} {ln : Int} {st v : Value} {tk : Str} {o1 o2 o3 o4 : Obj}
theorem lex_get {p1 p2 : Pos} {nm : Str} {Q : Value → Shared → Prop} (F : Fr h₀ L sh m) (X : (frag w.params).In h₀) (hm : m (Str.ofString "self") = some (.ref la))
    (N : News h₀ L sh ((ia, o1) :: (ida, o2) :: (la, instObj 722 lda) :: (lda, lexO w.params D px ia pa fa st ln tl tk tt) :: rest))
    (e1 : plainGet (frag w.params) 722 nm = true) (e2 : findIn (frag w.params) (.ref 722) nm = some none) (hl : getL nm (lexE w.params D px ia pa fa st ln tl tk tt) = some (some v)) (hv : handedIn v = true) (hq : ∀ k, Q v ⟨sh, sg, sd, k, so⟩)
    (hk : cs.kind = .function := by rfl) (hloc : (envOf cn cs L a ccd).kindOf (Str.ofString "self") = some .local := by rfl) :
    wpAny (model prog w) A (eval (.Attribute (.Name (Str.ofString "self") p1) nm p2) (envOf cn cs L a ccd)) Q E ⟨sh, sg, sd, sk, so⟩ := by
  refine Attribute_Name_ (ld F hm ?_ hk hloc)
  k_dflt refine' get_own F X (InstAt.of_news N ?h1 ?h2) e1 ?k5 e2 ?k7 hl hv (hq _)
  case h1 => k_mem
  case h2 => k_mem
  case k5 => k_is
  case k7 => k_is
theorem offLex (R : Ord6 lda la ida ia pa fa) (off : OwnOff rest [ia, ida, la, lda, pa, fa]) :
    ∀ q ∈ ((pa, o3) :: (fa, o4) :: rest), q.1 ≠ lda := by
  obtain ⟨a, b, c, d, e⟩ := R
  intro q hq
  rcases List.mem_cons.mp hq with rfl | hq
  · refine neN ?_; dsimp only; omega
  rcases List.mem_cons.mp hq with rfl | hq
  · refine neN ?_; dsimp only; omega
  · exact off q hq lda (.tail _ (.tail _ (.tail _ (.head _))))
theorem lex_set {nm : Str} {st' : Value} {ln' : Int} {tl' tt' : Tok} {tk' : Str} {Q : Unit → Shared → Prop} (F : Fr h₀ L sh m) (X : (frag w.params).In h₀)
    (N : News h₀ L sh ((ia, o1) :: (ida, o2) :: (la, instObj 722 lda) :: (lda, lexO w.params D px ia pa fa st ln tl tk tt) :: (pa, o3) :: (fa, o4) :: rest))
    (R : Ord6 lda la ida ia pa fa) (off : OwnOff rest [ia, ida, la, lda, pa, fa])
    (e1 : takerIn (frag w.params) 722 nm = some none) (hl : (getL nm (lexE w.params D px ia pa fa st ln tl tk tt)).isSome = true)
    (e : ∀ k, (putL nm (PyData.keyHash w.params nm) (.str nm k) v (lexE w.params D px ia pa fa st ln tl tk tt), putN nm (lexE w.params D px ia pa fa st ln tl tk tt) 19) = (lexE w.params D px ia pa fa st' ln' tl' tk' tt', 19))
    (hq : ∀ h' k, Fr h₀ L h' m → News h₀ L h' ((ia, o1) :: (ida, o2) :: (la, instObj 722 lda) :: (lda, lexO w.params D px ia pa fa st' ln' tl' tk' tt') :: (pa, o3) :: (fa, o4) :: rest) → Q () ⟨h', sg, sd, k, so⟩) :
    wpAny (model prog w) A (setAttr (.ref la) nm v) Q E ⟨sh, sg, sd, sk, so⟩ := by
  have R' := R
  obtain ⟨a, b, c, d, e'⟩ := R'
  k_dflt refine' set_dict F X N (InstAt.of_news N ?h1 ?h2) ?k5 ?k6 ?k7 e1 ?k9 hl (e _) ?k12 ?k13 (fun h' F' N' => hq h' _ F' N')
  case h1 => k_mem
  case h2 => k_mem
  case k5 => exact rfl
  case k6 => k_is
  case k7 => k_is
  case k9 => k_is
  case k13 => exact Nat.le_of_ble_eq_true rfl
  case k12 =>
    refine Upd.tail ?_ (Upd.tail ?_ (Upd.tail ?_ (Upd.head (offLex R off)))) <;> (refine neN ?_; dsimp only; omega)
end
def Com (c : Bool) (x : Str) (n b : Nat) (r : List Nat) : Prop := c = true → At x n (b :: r) ∧ b ≠ 10 ∧ ∀ z ∈ r.head?, z = 10
theorem comAt {c : Bool} {x : Str} {n b : Nat} {r : List Nat} (h : Com c x n b r) (e : c = true) : At x n (b :: r) := (h e).1
theorem comNe {c : Bool} {x : Str} {n b : Nat} {r : List Nat} (h : Com c x n b r) (e : c = true) : b ≠ 10 := (h e).2.1
theorem comHd {c : Bool} {x : Str} {n b : Nat} {r : List Nat} (h : Com c x n b r) (e : c = true) : ∀ z ∈ r.head?, z = 10 := (h e).2.2
section
open PySem.Builtin PySem.Builtin.Deque
theorem plainAttrs_deque : PlainAttrs "collections.deque" :=
  ⟨⟨"collections.deque.__getattribute__", by rw [typeLookup_type, builtinLookup_eq_fast]; kernel_rfl, by decide +kernel⟩, by rw [typeLookup_type, builtinLookup_eq_fast]; kernel_rfl⟩
theorem noBool_deque : typeLookup (.type "collections.deque") "__bool__" = pure none := by rw [typeLookup_type, builtinLookup_eq_fast]; kernel_rfl
theorem slot_dlen : Slot "collections.deque" "__len__" "collections.deque.__len__" :=
  .of (owner := "collections.deque") (n := "__len__") (by rw [typeLookup_type, builtinLookup_eq_fast]; kernel_rfl) (by decide +kernel) (by decide +kernel) (by decide +kernel)
    (by first | exact .inl (by decide +kernel) | exact .inr (by decide +kernel)) (by rw [isSubtype_type]; kernel_rfl)
theorem slot_dapp : Slot "collections.deque" "appendleft" "collections.deque.appendleft" :=
  .of (owner := "collections.deque") (n := "appendleft") (by rw [typeLookup_type, builtinLookup_eq_fast]; kernel_rfl) (by decide +kernel) (by decide +kernel) (by decide +kernel)
    (by first | exact .inl (by decide +kernel) | exact .inr (by decide +kernel)) (by rw [isSubtype_type]; kernel_rfl)
theorem slot_dpop : Slot "collections.deque" "popleft" "collections.deque.popleft" :=
  .of (owner := "collections.deque") (n := "popleft") (by rw [typeLookup_type, builtinLookup_eq_fast]; kernel_rfl) (by decide +kernel) (by decide +kernel) (by decide +kernel)
    (by first | exact .inl (by decide +kernel) | exact .inr (by decide +kernel)) (by rw [isSubtype_type]; kernel_rfl)
theorem type_dapp : typeOf (.builtin "collections.deque.appendleft") = pure (.type "method_descriptor") := by show builtinType _ = _; rw [builtinType_eq_fast]; kernel_rfl
theorem type_dpop : typeOf (.builtin "collections.deque.popleft") = pure (.type "method_descriptor") := by show builtinType _ = _; rw [builtinType_eq_fast]; kernel_rfl
theorem entry_dlen : entryFor table "collections.deque.__len__" = some Builtin.«collections.deque.__len__» := entryFor_of_tree (by kernel_rfl)
theorem entry_dapp : entryFor table "collections.deque.appendleft" = some Builtin.«collections.deque.appendleft» := entryFor_of_tree (by kernel_rfl)
theorem entry_dpop : entryFor table "collections.deque.popleft" = some Builtin.«collections.deque.popleft» := entryFor_of_tree (by kernel_rfl)
theorem args_dlen (a : Value) : argsOk "collections.deque.__len__" ⟨[a], []⟩ := by unfold argsOk; kernel_rfl
theorem args_dapp (a b : Value) : argsOk "collections.deque.appendleft" ⟨[a, b], []⟩ := by unfold argsOk; kernel_rfl
theorem args_dpop (a : Value) : argsOk "collections.deque.popleft" ⟨[a], []⟩ := by unfold argsOk; kernel_rfl
section
variable {prog : Program} {w : World} {A : Around} {E : Value → Shared → Prop} {s : Shared} {D : Addr} {st : Int} {vs : List Value}
theorem d_type (ho : s.heap.get? D = some (dequeO st vs)) : s.TypeIs (.ref D) "collections.deque" := ⟨_, ho, rfl⟩
theorem d_method {name : Str} {id : String} {pl : Sem Bool} {Q : Value × List Value → Shared → Prop} (ho : s.heap.get? D = some (dequeO st vs)) (slot : Slot "collections.deque" name id) (hty : typeOf (.builtin id) = pure (.type "method_descriptor"))
    (h : Q (.builtin id, [.ref D]) s) : wpAny (model prog w) A (getMethod (.ref D) name pl) Q E s :=
  getMethod_builtin (d_type ho) plainAttrs_deque slot hty (fun a e => by cases e; exact ⟨_, ho, rfl⟩) h
theorem d_fields {Q : Array Value → Shared → Prop} (ho : s.heap.get? D = some (dequeO st vs)) (h : Q (#[.none, .int st 0] ++ vs.toArray) s) : wpAny (model prog w) A (fieldsOf (.ref D)) Q E s := by
  unfold fieldsOf
  exact wpAny_bind (wpAny_load ho (wpAny_pure h))
theorem d_change {f : Array Value → Array Value} {vs' : List Value} {Q : Unit → Shared → Prop} (ho : s.heap.get? D = some (dequeO st vs)) (e : f ((#[Value.none, Value.int st 0] ++ vs.toArray).extract 2 (#[Value.none, Value.int st 0] ++ vs.toArray).size) = vs'.toArray) (hz : vs'.length ≤ 100)
    (h : ∀ h', Heap.SameBut D s.heap h' → h'.get? D = some (dequeO (st + 1) vs') → Q () { s with heap := h' }) : wpAny (model prog w) A (Deque.change (.ref D) f) Q E s := by
  unfold Deque.change
  refine wpAny_bind ?_
  unfold Deque.state field
  refine wpAny_bind (wpAny_bind (d_fields ho ?_))
  rw [show (#[Value.none, .int st 0] ++ vs.toArray)[1]? = some (.int st 0) from by simp]
  refine wpAny_pure (wpAny_pure ?_)
  unfold updateFields
  refine wpAny_bind (wpAny_load ho ?_)
  refine wpAny_bind (wpAny_update ho ?_)
  have hg : (s.heap.update D (Obj.mapFields fun vs => #[vs.getD 0 .none, rawInt (if true = true then st + 1 else st)] ++ f (vs.extract 2 vs.size))).get? D = some (dequeO (st + 1) vs') := by
    rw [Heap.get?_update_self _ ho rfl]
    congr 1
    unfold Obj.mapFields dequeO
    dsimp only
    rw [e]
    simp [rawInt]
  refine wpAny_lookBehind hg ?_ (h _ (Heap.SameBut.update ..) hg)
  refine pastItsLine_fields ?_
  have : (#[Value.none, .int (st + 1) 0] ++ vs'.toArray).size = vs'.length + 2 := by simp
  rw [this]
  unfold sizeLine
  omega
theorem d_appendleft {v : Value} {Q : Value → Shared → Prop} (ho : s.heap.get? D = some (dequeO st [])) (h : ∀ h', Heap.SameBut D s.heap h' → h'.get? D = some (dequeO (st + 1) [v]) → Q .none { s with heap := h' }) :
    wpAny (model prog w) A (call (.builtin "collections.deque.appendleft") [.ref D, v]) Q E s := by
  refine wpAny_call_entry slot_dapp (d_type ho) entry_dapp ?_ (args_dapp _ _)
  show wpAny _ _ (pushLeft (.ref D) v >>= fun _ => ret .none) _ _ s
  refine wpAny_bind ?_
  unfold pushLeft
  refine wpAny_bind (d_change (vs' := [v]) ho rfl (by simp) fun h' hs hg => ?_)
  unfold Deque.maxlen field
  refine wpAny_bind (wpAny_bind (wpAny_bind (d_fields hg ?_)))
  refine wpAny_pure (wpAny_pure (wpAny_pure (wpAny_pure ⟨.none, rfl, h _ hs hg⟩)))
theorem d_popleft {v : Value} {Q : Value → Shared → Prop} (ho : s.heap.get? D = some (dequeO st [v])) (h : ∀ h', Heap.SameBut D s.heap h' → h'.get? D = some (dequeO (st + 1) []) → Q v { s with heap := h' }) :
    wpAny (model prog w) A (call (.builtin "collections.deque.popleft") [.ref D]) Q E s := by
  refine wpAny_call_entry slot_dpop (d_type ho) entry_dpop ?_ (args_dpop _)
  unfold Builtin.«collections.deque.popleft»
  refine wpAny_bind (m := selfOnly "deque.popleft" _) (wpAny_pure ?_)
  unfold Deque.items
  refine wpAny_bind (wpAny_bind (d_fields ho (wpAny_pure ?_)))
  refine wpAny_bind (d_change (vs' := []) ho (by simp [Array.eraseIdxIfInBounds]) (by simp) fun h' hs hg => ?_)
  exact wpAny_pure ⟨v, rfl, h _ hs hg⟩
theorem d_size {Q : Nat → Shared → Prop} (ho : s.heap.get? D = some (dequeO st vs)) (h : Q vs.length s) : wpAny (model prog w) A (Deque.size (.ref D)) Q E s := by
  unfold Deque.size
  refine wpAny_bind (d_fields ho (wpAny_pure ?_))
  have : (#[Value.none, .int st 0] ++ vs.toArray).size - 2 = vs.length := by simp
  rw [this]; exact h
theorem d_lenBody {Q : Value → Shared → Prop} (ho : s.heap.get? D = some (dequeO st vs)) (hfit : (vs.length : Int) < 2 ^ 63)
    (h : Q (.int vs.length (s.toks + 1)) { s with toks := s.toks + 1 + 1 }) : wpAny (model prog w) A (Builtin.«len» ⟨[.ref D], []⟩) (fun fin s' => ∃ r, fin = .done (.ret r) ∧ Q r s') E s := by
  unfold Builtin.«len»
  refine wpAny_bind (m := oneArg "len" _) (wpAny_pure ?_)
  refine wpAny_bind (m := callSpecial? (.ref D) (Str.ofString "__len__")) (wpAny_callSpecial?_slot (name := Str.ofString "__len__") (d_type ho) slot_dlen
    (wpAny_call_entry slot_dlen (d_type ho) entry_dlen ?_ (args_dlen _)))
  show wpAny _ _ (do retInt (← Deque.size (.ref D))) _ _ s
  refine wpAny_bind (d_size ho ?_)
  refine (wpAny_bind (wpAny_mkInt (wpAny_pure ⟨_, rfl, ?_⟩)))
  refine wpAny_bind (wpAny_holding (wpAny_pure ?_))
  refine wpAny_bind (wpAny_letGo ?_)
  show wpAny _ _ (if ((vs.length : Nat) : Int) < 0 then _ else _) _ _ _
  rw [if_neg (by omega)]
  show wpAny _ _ (if ((vs.length : Nat) : Int) ≥ 2 ^ 63 then _ else _) _ _ _
  rw [if_neg (by omega)]
  exact wpAny_bind (wpAny_mkInt (wpAny_pure ⟨_, rfl, h⟩))
theorem d_truthy {b : Bool} {Q : Bool → Shared → Prop} (ho : s.heap.get? D = some (dequeO st vs)) (hfit : vs.length ≤ 100) (hb : ((vs.length : Int) != 0) = b)
    (h : Q b { s with toks := s.toks + 1 + 1 }) : wpAny (model prog w) A (truthy (.ref D)) Q E s := by
  have key : wpAny (model prog w) A (runValue (.builtin "len" ⟨[.ref D], []⟩)) (fun r s' => r = .int vs.length (s.toks + 1) ∧ Q b s') E s := by
    refine wpAny_runValue (codeAny_builtin entry_len ?_)
    rw [Around.under_plainId plain_len _]
    exact wpAny_mono (d_lenBody (Q := fun r s' => r = .int vs.length (s.toks + 1) ∧ Q b s') ho (by omega) ⟨rfl, h⟩)
      (fun fin s' h' => by obtain ⟨r, rfl, hq⟩ := h'; exact hq) fun _ _ e => e
  unfold truthy
  first
    | refine wpAny_bind (wpAny_callSpecial?_none (name := Str.ofString "__bool__") (d_type ho) noBool_deque ?_)
    | refine wpAny_bind (wpAny_pure (wpAny_bind (wpAny_callSpecial?_none (name := Str.ofString "__bool__") (d_type ho) noBool_deque ?_)))
  first
    | refine wpAny_bind (wpAny_specialOf (name := Str.ofString "__len__") (d_type ho) slot_dlen.lookup ?_)
    | refine wpAny_bind (wpAny_pure (wpAny_bind (wpAny_specialOf (name := Str.ofString "__len__") (d_type ho) slot_dlen.lookup ?_)))
  first
    | exact wpAny_bind (wpAny_mono key (fun r s' h' => by obtain ⟨rfl, hq⟩ := h'; exact wpAny_pure (hb ▸ hq)) fun _ _ e => e)
    | exact wpAny_bind (wpAny_pure (wpAny_bind (wpAny_mono key (fun r s' h' => by obtain ⟨rfl, hq⟩ := h'; exact wpAny_pure (hb ▸ hq)) fun _ _ e => e)))
end
end
section
variable {prog : Program} {w : World} {L : Addr} {h₀ : Heap} {m : Str → Option Value} {sh : Heap} {sg : Array GenState} {sd : Drawn} {sk : Nat} {so : OsState} {E : Value → Shared → Prop} {rest : List (Addr × Obj)} {A : Around}
  {la lda ia ida pa fa : Addr} {pst : Int} {v : Value} {vs : List Value} {o1 o2 o3 o4 o6 : Obj}
theorem lex_upd (R : Ord6 lda la ida ia pa fa) (off : OwnOff rest [ia, ida, la, lda, pa, fa]) (o o' : Obj) :
    Upd pa o o' ((ia, o1) :: (ida, o2) :: (la, o3) :: (lda, o4) :: (pa, o) :: (fa, o6) :: rest) ((ia, o1) :: (ida, o2) :: (la, o3) :: (lda, o4) :: (pa, o') :: (fa, o6) :: rest) := by
  obtain ⟨a, b, c, d, e⟩ := R
  refine Upd.tail ?_ (Upd.tail ?_ (Upd.tail ?_ (Upd.tail ?_ (Upd.head ?_))))
  · refine neN ?_; dsimp only; omega
  · refine neN ?_; dsimp only; omega
  · refine neN ?_; dsimp only; omega
  · refine neN ?_; dsimp only; omega
  · intro q hq
    rcases List.mem_cons.mp hq with rfl | hq
    · refine neN ?_; dsimp only; omega
    · exact off q hq pa (.tail _ (.tail _ (.tail _ (.tail _ (.head _)))))
theorem lex_app {Q : Value → Shared → Prop} (F : Fr h₀ L sh m) (N : News h₀ L sh ((ia, o1) :: (ida, o2) :: (la, o3) :: (lda, o4) :: (pa, dequeO pst []) :: (fa, o6) :: rest)) (R : Ord6 lda la ida ia pa fa) (off : OwnOff rest [ia, ida, la, lda, pa, fa])
    (h : ∀ h', Fr h₀ L h' m → News h₀ L h' ((ia, o1) :: (ida, o2) :: (la, o3) :: (lda, o4) :: (pa, dequeO (pst + 1) [v]) :: (fa, o6) :: rest) → Q .none ⟨h', sg, sd, sk, so⟩) :
    wpAny (model prog w) A (call (.builtin "collections.deque.appendleft") [.ref pa, v]) Q E ⟨sh, sg, sd, sk, so⟩ := by
  have U := lex_upd (o1 := o1) (o2 := o2) (o3 := o3) (o4 := o4) (o6 := o6) R off (dequeO pst []) (dequeO (pst + 1) [v])
  obtain ⟨pre, post, e1, e2, a, b⟩ := U.split
  rw [e1] at N
  have z := N (pa, dequeO pst []) (List.mem_append.mpr (.inr (.head _)))
  refine d_appendleft z.1 fun h' hs ho' => h h' (F.change hs z.2.1 z.2.2) ?_
  rw [e2]
  exact news_set N a b hs ho'
theorem lex_pop {Q : Value → Shared → Prop} (F : Fr h₀ L sh m) (N : News h₀ L sh ((ia, o1) :: (ida, o2) :: (la, o3) :: (lda, o4) :: (pa, dequeO pst [v]) :: (fa, o6) :: rest)) (R : Ord6 lda la ida ia pa fa) (off : OwnOff rest [ia, ida, la, lda, pa, fa])
    (h : ∀ h', Fr h₀ L h' m → News h₀ L h' ((ia, o1) :: (ida, o2) :: (la, o3) :: (lda, o4) :: (pa, dequeO (pst + 1) []) :: (fa, o6) :: rest) → Q v ⟨h', sg, sd, sk, so⟩) :
    wpAny (model prog w) A (call (.builtin "collections.deque.popleft") [.ref pa]) Q E ⟨sh, sg, sd, sk, so⟩ := by
  have U := lex_upd (o1 := o1) (o2 := o2) (o3 := o3) (o4 := o4) (o6 := o6) R off (dequeO pst [v]) (dequeO (pst + 1) [])
  obtain ⟨pre, post, e1, e2, a, b⟩ := U.split
  rw [e1] at N
  have z := N (pa, dequeO pst [v]) (List.mem_append.mpr (.inr (.head _)))
  refine d_popleft z.1 fun h' hs ho' => h h' (F.change hs z.2.1 z.2.2) ?_
  rw [e2]
  exact news_set N a b hs ho'
theorem lex_truthyP {b : Bool} {Q : Bool → Shared → Prop} (N : News h₀ L sh ((ia, o1) :: (ida, o2) :: (la, o3) :: (lda, o4) :: (pa, dequeO pst vs) :: (fa, o6) :: rest)) (hfit : vs.length ≤ 100) (hb : ((vs.length : Int) != 0) = b)
    (h : ∀ k, Q b ⟨sh, sg, sd, k, so⟩) : wpAny (model prog w) A (truthy (.ref pa)) Q E ⟨sh, sg, sd, sk, so⟩ :=
  d_truthy (N _ (.tail _ (.tail _ (.tail _ (.tail _ (.head _)))))).1 hfit hb (h _)
theorem lex_truthyF {b : Bool} {Q : Bool → Shared → Prop} (N : News h₀ L sh ((ia, o1) :: (ida, o2) :: (la, o3) :: (lda, o4) :: (pa, o6) :: (fa, dequeO pst vs) :: rest)) (hfit : vs.length ≤ 100) (hb : ((vs.length : Int) != 0) = b)
    (h : ∀ k, Q b ⟨sh, sg, sd, k, so⟩) : wpAny (model prog w) A (truthy (.ref fa)) Q E ⟨sh, sg, sd, sk, so⟩ :=
  d_truthy (N _ (.tail _ (.tail _ (.tail _ (.tail _ (.tail _ (.head _))))))).1 hfit hb (h _)
theorem lex_methodP {name : Str} {id : String} {pl : Sem Bool} {Q : Value × List Value → Shared → Prop} (N : News h₀ L sh ((ia, o1) :: (ida, o2) :: (la, o3) :: (lda, o4) :: (pa, dequeO pst vs) :: (fa, o6) :: rest)) (slot : Slot "collections.deque" name id) (hty : typeOf (.builtin id) = pure (.type "method_descriptor"))
    (h : Q (.builtin id, [.ref pa]) ⟨sh, sg, sd, sk, so⟩) : wpAny (model prog w) A (getMethod (.ref pa) name pl) Q E ⟨sh, sg, sd, sk, so⟩ :=
  d_method (N _ (.tail _ (.tail _ (.tail _ (.tail _ (.head _)))))).1 slot hty h
end
def partW : Nat → List Nat
  | 0 => [97, 32]
  | 1 => [97, 40]
  | 2 => [39, 39, 32]
  | 3 => [34, 98, 32, 99, 34, 10]
  | 4 => [35, 39, 10]
  | 5 => [40, 41]
  | _ => [97, 35, 40, 10, 9]
def partT (px : Bool) : Nat → List (List Nat × Nat)
  | 0 => [([97], 2)]
  | 1 => [([97], 2), ([40], 2)]
  | 2 => cond px [([], 3)] [([39, 39], 2)]
  | 3 => cond px [([98, 32, 99], 6)] [([34, 98, 32, 99, 34], 5)]
  | 4 => []
  | 5 => [([40], 1), ([41], 2)]
  | _ => cond px [([97], 4)] [([97], 5)]
def tokD (p : List Nat × Nat) : Dat := .tuple [.str (S p.1), .int p.2]
def partD (px : Bool) (k : Nat) : Dat := .tuple [.str (S (partW k)), .list ((partT px k).map tokD)]
theorem strD {news : List (Addr × Obj)} {x : Str} {t : Tok} {l : List Nat} (e : x = S l) : DatIn news (.str x t) (.str (S l)) := e ▸ .str x t
theorem lt_nil {news : List (Addr × Obj)} : ∀ q ∈ news, ∀ p ∈ ([] : List (Addr × Obj)), q.1 < p.1 := fun _ _ _ h => nomatch h
theorem lt_cons {news tl : List (Addr × Obj)} {d : Addr} {o : Obj} (h : AllLt d news) (r : ∀ q ∈ news, ∀ p ∈ tl, q.1 < p.1) : ∀ q ∈ news, ∀ p ∈ (d, o) :: tl, q.1 < p.1 := by
  have h' : ∀ {l : List (Addr × Obj)}, AllLt d l → ∀ q ∈ l, q.1 < d := by
    intro l
    induction l with
    | nil => exact fun _ _ h => nomatch h
    | cons p l ih =>
      rintro ⟨a, b⟩ q hq
      rcases List.mem_cons.mp hq with rfl | hq
      · exact a
      · exact ih b q hq
  intro q hq p hp
  rcases List.mem_cons.mp hp with rfl | hp
  · exact h' h q hq
  · exact r q hq p hp
theorem lt_cons1 {news tl : List (Addr × Obj)} {d : Addr} {o : Obj} (h : ∀ p ∈ news, p.1 < d) (r : ∀ q ∈ news, ∀ p ∈ tl, q.1 < p.1) : ∀ q ∈ news, ∀ p ∈ (d, o) :: tl, q.1 < p.1 := lt_cons (allLt_of h) r
theorem lt_cons2 {news tl : List (Addr × Obj)} {d : Addr} {o : Obj} {a : Prop} (h : a ∧ AllLt d news) (r : ∀ q ∈ news, ∀ p ∈ tl, q.1 < p.1) : ∀ q ∈ news, ∀ p ∈ (d, o) :: tl, q.1 < p.1 := lt_cons h.2 r
theorem lt_cons3 {news tl : List (Addr × Obj)} {d : Addr} {o : Obj} {a b : Prop} (h : a ∧ b ∧ AllLt d news) (r : ∀ q ∈ news, ∀ p ∈ tl, q.1 < p.1) : ∀ q ∈ news, ∀ p ∈ (d, o) :: tl, q.1 < p.1 := lt_cons h.2.2 r
theorem lt_cons4 {news tl : List (Addr × Obj)} {d : Addr} {o : Obj} {a b c : Prop} (h : a ∧ b ∧ c ∧ AllLt d news) (r : ∀ q ∈ news, ∀ p ∈ tl, q.1 < p.1) : ∀ q ∈ news, ∀ p ∈ (d, o) :: tl, q.1 < p.1 := lt_cons h.2.2.2 r
local macro_rules | `(tactic| k_extra "lt_all") => `(tactic| ((repeat (first | refine lt_cons1 (by assumption) ?_ | refine lt_cons2 (by assumption) ?_ | refine lt_cons3 (by assumption) ?_ | refine lt_cons4 (by assumption) ?_)); exact lt_nil))
section
variable {prog : Program} {w : World} {p : Program} {loose : List Str} {mean : ExcName → Option Value} {mg mb : Str → Option Value} {dp un : Nat} {gd : Option (List Code)} {cn : Str} {cs : Scope} {a : Addr} {ccd : Value} {cl : List (Str × Addr)} {outer : List Env} {A₀ : Around} {base h₀ : Heap} {L : Addr} {m : Str → Option Value} {sh : Heap} {sg : Array GenState} {sd : Drawn} {sk : Nat} {so : OsState} {Q E : Value → Shared → Prop} {news : List (Addr × Obj)}
theorem law_part {t : Tok} {px : Bool} {k : Nat} (h7 : k < 7)
    (B : Below A₀ base outer h₀) (F : Fr h₀ L sh m) (X : (frag w.params).In h₀) (N : News h₀ L sh news) (T : Top p loose mean mg mb h₀) (hk : cs.kind = .function) (hd : dp + 4 < recursionLimit)
    (hret : ∀ r tl h' tk', Fr h₀ L h' m → News h₀ L h' (tl ++ news) → (∀ q ∈ news, ∀ p ∈ tl, q.1 < p.1) → DatIn tl r (partD px k) → Q r ⟨h', sg, sd, tk', so⟩) :
    wpAny (model prog w) (ktrTop dp un gd cn cs L a ccd cl outer) (call (.ref 740) [.int (k : Int) t, .bool px]) Q E ⟨sh, sg, sd, sk, so⟩ := by
  have hk7 : k = 0 ∨ k = 1 ∨ k = 2 ∨ k = 3 ∨ k = 4 ∨ k = 5 ∨ k = 6 := by omega
  rcases hk7 with rfl | rfl | rfl | rfl | rfl | rfl | rfl
  case inl | inr.inl | inr.inr.inr.inr.inl | inr.inr.inr.inr.inr.inl =>
    refine wpAny_call ?_
    k_dflt ktr_enter
    k_steps
    first
    | (refine hret _ [_, _, _] _ _ (by assumption) (by assumption) ?_ ?_
       · k_extra "lt_all"
       · exact .tuple (.head _) (.cons (strD (by decide +kernel)) (.cons (.list (.tail _ (.head _)) (.cons (.tuple (.tail _ (.tail _ (.head _))) (.cons (strD (by decide +kernel)) (.cons (.int _ _) .nil))) .nil)) .nil)))
    | (refine hret _ [_, _, _, _] _ _ (by assumption) (by assumption) ?_ ?_
       · k_extra "lt_all"
       · exact .tuple (.head _) (.cons (strD (by decide +kernel)) (.cons (.list (.tail _ (.head _)) (.cons (.tuple (.tail _ (.tail _ (.tail _ (.head _)))) (.cons (strD (by decide +kernel)) (.cons (.int _ _) .nil))) (.cons (.tuple (.tail _ (.tail _ (.head _))) (.cons (strD (by decide +kernel)) (.cons (.int _ _) .nil))) .nil))) .nil)))
    | (refine hret _ [_, _] _ _ (by assumption) (by assumption) ?_ ?_
       · k_extra "lt_all"
       · exact .tuple (.head _) (.cons (strD (by decide +kernel)) (.cons (.list (.tail _ (.head _)) .nil) .nil)))
  all_goals
    cases px
    all_goals
      refine wpAny_call ?_
      k_dflt ktr_enter
      k_steps
      refine hret _ [_, _, _] _ _ (by assumption) (by assumption) ?_ ?_
      · k_extra "lt_all"
      · exact .tuple (.head _) (.cons (strD (by decide +kernel)) (.cons (.list (.tail _ (.head _)) (.cons (.tuple (.tail _ (.tail _ (.head _))) (.cons (strD (by decide +kernel)) (.cons (.int _ _) .nil))) .nil)) .nil))
end
theorem kstB_self {m : Str → Option Value} {ps : List (Str × Value)} (h : ∀ p ∈ ps, m p.1 = some p.2) : kstB m ps = m := by
  funext z
  exact kstB_eq (m₁ := m) h (fun _ => rfl)
theorem allLt_dg {d : Addr} : ∀ {l : List (Addr × Obj)}, AllLt d l → ∀ q ∈ l, @LT.lt Nat _ q.1 d
  | [], _, _, h => nomatch h
  | _ :: _, ⟨a, b⟩, q, hq => by
    rcases List.mem_cons.mp hq with rfl | hq
    · exact a
    · exact allLt_dg b q hq
noncomputable def forParts : Stmt → Expr × List Stmt
  | .For _ i b _ _ => (i, b)
  | _ => (default, [])
noncomputable def dgP : Expr × List Stmt := forParts (stmtAt ast__law_digits.1.2.1 1)
noncomputable abbrev dgA (dp un : Nat) (gd : Option (List Code)) (L : Addr) (outer : List Env) : Around := ktrTop dp un gd (Str.ofString "_law_digits") ast__law_digits.1.2.2 L 733 (.ref 732) [] outer
noncomputable abbrev dgE (L : Addr) : Env := envOf (Str.ofString "_law_digits") ast__law_digits.1.2.2 L 733 (.ref 732)
noncomputable def whParts : Stmt → Expr × List Stmt
  | .While t b _ _ => (t, b)
  | _ => (default, [])
noncomputable def dgW : Expr × List Stmt := whParts (stmtAt dgP.2 2)
section
variable {prog : Program} {w : World} {p : Program} {loose : List Str} {mean : ExcName → Option Value} {mg mb : Str → Option Value} {dp un : Nat} {gd : Option (List Code)} {outer : List Env} {A₀ : Around} {base h₀ : Heap} {L : Addr} {sh : Heap} {sg : Array GenState} {sd : Drawn} {sk : Nat} {so : OsState} {E : Value → Shared → Prop} {rest : List (Addr × Obj)}
theorem dg_wtest {X : Int} {t : Tok} {u : Str → Option Value} {v : Value} (F : Fr h₀ L sh (kstB u [(Str.ofString "x", .int X t), (Str.ofString "digits", v)]))
    {Q : Bool → Shared → Prop} (hq : ∀ k, Q (decide (35 ≤ X)) ⟨sh, sg, sd, k, so⟩) : wpAny (model prog w) (dgA dp un gd L outer) (isTrue dgW.1 (dgE L) (eval dgW.1 (dgE L))) Q E ⟨sh, sg, sd, sk, so⟩ := by
  show wpAny _ _ (isTrue (.Compare _ _ _ _) _ (eval (.Compare _ _ _ _) _)) _ _ _
  k_steps
  exact hq _
theorem dg_wbody {Dn : Addr} {c : Nat} {us : List Value} {ds : List Int} {X : Int} {t : Tok} {u : Str → Option Value}
    (F : Fr h₀ L sh (kstB u [(Str.ofString "x", .int X t), (Str.ofString "digits", .ref Dn)])) (N : News h₀ L sh ((Dn, listOf us.toArray c) :: rest)) (off : OwnOff rest [Dn]) (hi : IntsAre us ds) (hz : ds.length ≤ 101)
    {Q : Flow → Shared → Prop}
    (hq : ∀ h' k m' t' t'' c', Fr h₀ L h' m' → m' (Str.ofString "x") = some (.int (X.fdiv 35) t'') → m' (Str.ofString "digits") = some (.ref Dn) → News h₀ L h' ((Dn, listOf (us ++ [Value.int ((X.fdiv 35).fmod 35) t']).toArray c') :: rest) → Q .next ⟨h', sg, sd, k, so⟩) :
    wpAny (model prog w) (dgA dp un gd L outer) (execs dgW.2 (dgE L)) Q E ⟨sh, sg, sd, sk, so⟩ := by
  have hlen := IntsAre.length hi
  show wpAny _ _ (execs [.Assign _ _ _, .Expr _ _] _) _ _ _
  k_steps
  refine append_K (by k_asm) (by k_asm) (by k_upd) ?_ (by size_fits)
  intro h' F' N'
  rw [List.push_toArray] at N'
  show wpAny _ _ (execs [] _) _ _ _
  exact wpAny_execs_nil (hq _ _ _ _ _ _ F' rfl rfl N')
theorem dg_while {Dn : Addr} {c : Nat} {us : List Value} {ds : List Int} {n : Int} {t : Tok} {u : Str → Option Value}
    (F : Fr h₀ L sh u) (N : News h₀ L sh ((Dn, listOf us.toArray c) :: rest)) (hx : u (Str.ofString "x") = some (.int n t)) (hdg : u (Str.ofString "digits") = some (.ref Dn)) (off : OwnOff rest [Dn]) (hi : IntsAre us ds) (hz : ds.length ≤ 101) (h0 : 0 ≤ n) (h1 : n < 1225)
    {Q : Flow → Shared → Prop}
    (hq : ∀ h' k m' us' ds' c', Fr h₀ L h' m' → m' (Str.ofString "digits") = some (.ref Dn) → News h₀ L h' ((Dn, listOf us'.toArray c') :: rest) → IntsAre us' ds' → ds'.length ≤ ds.length + 1 → (∀ d ∈ ds, d ∈ ds') → (∀ d ∈ ds', d ∈ ds ∨ (0 ≤ d ∧ d < 35)) → Q .next ⟨h', sg, sd, k, so⟩) (hE : PassesOwn (model prog w) (dgA dp un gd L outer) (dgE L) E := by passes_own) :
    wpAny (model prog w) (dgA dp un gd L outer) (exec (stmtAt dgP.2 2) (dgE L)) Q E ⟨sh, sg, sd, sk, so⟩ := by
  show wpAny _ _ (exec (.While dgW.1 dgW.2 [] _) _) _ _ _
  refine While_inv2 (n₀ := 1) (fun j m nx => ∃ X t us' ds' c', nx = (Dn, listOf us'.toArray c') :: rest ∧ m (Str.ofString "x") = some (.int X t) ∧ m (Str.ofString "digits") = some (.ref Dn) ∧ IntsAre us' ds' ∧ 0 ≤ X ∧ ((j = 1 ∧ X < 1225 ∧ ds' = ds) ∨ (j = 0 ∧ X < 35 ∧ ∃ d, 0 ≤ d ∧ d < 35 ∧ ds' = ds ++ [d]))) F N ⟨n, t, us, ds, c, rfl, hx, hdg, hi, h0, .inl ⟨rfl, h1, rfl⟩⟩ ?_ hE
  rintro j m nx h tk0 F N ⟨X, t, us', ds', c', rfl, hx, hdg, hi', hX, hj⟩
  have e := kstB_self (m := m) (ps := [(Str.ofString "x", .int X t), (Str.ofString "digits", .ref Dn)]) (by
    intro q hq
    rcases List.mem_cons.mp hq with rfl | hq
    · exact hx
    · rw [List.mem_singleton.mp hq]; exact hdg)
  have F' := e.symm ▸ F
  refine dg_wtest F' fun k1 => ?_
  by_cases hb : 35 ≤ X
  · rw [if_pos (decide_eq_true hb)]
    rcases hj with ⟨rfl, hX2, rfl⟩ | ⟨_, h35, _⟩
    · refine dg_wbody F' N off hi' hz fun h' k m' t' t'' c' F1 h1 h2 N1 => ?_
      have a1 := fdiv_fmod_facts X 35
      have a2 := fdiv_fmod_facts (X.fdiv 35) 35
      exact ⟨h', k, m', _, 0, rfl, F1, N1, Nat.zero_lt_one, X.fdiv 35, t'', us' ++ [.int ((X.fdiv 35).fmod 35) t'], ds' ++ [(X.fdiv 35).fmod 35], _, rfl, h1, h2, hi'.append (.cons _ _ .nil), by omega, .inr ⟨rfl, by omega, (X.fdiv 35).fmod 35, by omega, by omega, rfl⟩⟩
    · omega
  · rw [if_neg (by simpa using hb)]
    rcases hj with ⟨_, _, rfl⟩ | ⟨_, _, d, d0, d1, rfl⟩
    · exact hq _ _ _ _ _ _ F hdg N hi' (Nat.le_succ _) (fun _ h => h) fun d h => .inl h
    · refine hq _ _ _ _ _ _ F hdg N hi' (by simp) (fun _ h => List.mem_append.mpr (.inl h)) fun d' h => ?_
      rcases List.mem_append.mp h with h | h
      · exact .inl h
      · rw [List.mem_singleton.mp h]; exact .inr ⟨d0, d1⟩
theorem dg_mod {n : Int} {t : Tok} {u : Str → Option Value} {v : Value} {news : List (Addr × Obj)} (F : Fr h₀ L sh (kstB u [(Str.ofString "x", .int n t), (Str.ofString "digits", v)])) (N : News h₀ L sh news)
    {Q : Flow → Shared → Prop} (hq : ∀ h' k m' t', Fr h₀ L h' m' → News h₀ L h' news → m' (Str.ofString "x") = some (.int (n.fmod 1225) t') → m' (Str.ofString "digits") = some v → Q .next ⟨h', sg, sd, k, so⟩) : wpAny (model prog w) (dgA dp un gd L outer) (exec (stmtAt dgP.2 0) (dgE L)) Q E ⟨sh, sg, sd, sk, so⟩ := by
  have hp : (35 : Int) ^ Int.toNat 2 = 1225 := by decide
  show wpAny _ _ (exec (.Assign _ _ _) _) _ _ _
  k_steps
  exact hq _ _ _ _ (by assumption) (by assumption) rfl rfl
theorem dg_app {Dn : Addr} {c : Nat} {us : List Value} {ds : List Int} {X : Int} {t : Tok} {u : Str → Option Value}
    (F : Fr h₀ L sh (kstB u [(Str.ofString "x", .int X t), (Str.ofString "digits", .ref Dn)])) (N : News h₀ L sh ((Dn, listOf us.toArray c) :: rest)) (off : OwnOff rest [Dn]) (hi : IntsAre us ds) (hz : ds.length ≤ 101)
    {Q : Flow → Shared → Prop}
    (hq : ∀ h' k t' c', Fr h₀ L h' (kstB u [(Str.ofString "x", .int X t), (Str.ofString "digits", .ref Dn)]) → News h₀ L h' ((Dn, listOf (us ++ [Value.int (X.fmod 35) t']).toArray c') :: rest) → Q .next ⟨h', sg, sd, k, so⟩) :
    wpAny (model prog w) (dgA dp un gd L outer) (exec (stmtAt dgP.2 1) (dgE L)) Q E ⟨sh, sg, sd, sk, so⟩ := by
  have hlen := IntsAre.length hi
  show wpAny _ _ (exec (.Expr _ _) _) _ _ _
  k_steps
  refine append_K (by k_asm) (by k_asm) (by k_upd) ?_ (by size_fits)
  intro h' F' N'
  rw [List.push_toArray] at N'
  exact hq _ _ _ _ F' N'
theorem dg_turn {Dn : Addr} {c : Nat} {us : List Value} {ds : List Int} {n : Int} {t : Tok} {u : Str → Option Value}
    (F : Fr h₀ L sh u) (hx : u (Str.ofString "x") = some (.int n t)) (hdg : u (Str.ofString "digits") = some (.ref Dn)) (N : News h₀ L sh ((Dn, listOf us.toArray c) :: rest)) (off : OwnOff rest [Dn]) (hi : IntsAre us ds) (hz : ds.length ≤ 100)
    {Q : Flow → Shared → Prop}
    (hq : ∀ h' k m' us' ds' c', Fr h₀ L h' m' → m' (Str.ofString "digits") = some (.ref Dn) → News h₀ L h' ((Dn, listOf us'.toArray c') :: rest) → IntsAre us' ds' → ds'.length ≤ ds.length + 2 → ds' ≠ [] → (∀ d ∈ ds', d ∈ ds ∨ (0 ≤ d ∧ d < 35)) → Q .next ⟨h', sg, sd, k, so⟩) (hE : PassesOwn (model prog w) (dgA dp un gd L outer) (dgE L) E := by passes_own) :
    wpAny (model prog w) (dgA dp un gd L outer) (execs dgP.2 (dgE L)) Q E ⟨sh, sg, sd, sk, so⟩ := by
  have e : ∀ {m : Str → Option Value} {X : Int} {t : Tok}, m (Str.ofString "x") = some (.int X t) → m (Str.ofString "digits") = some (.ref Dn) → kstB m [(Str.ofString "x", .int X t), (Str.ofString "digits", .ref Dn)] = m := fun hx hdg => kstB_self (by
    intro q hq
    rcases List.mem_cons.mp hq with rfl | hq
    · exact hx
    · rw [List.mem_singleton.mp hq]; exact hdg)
  show wpAny _ _ (execs [stmtAt dgP.2 0, stmtAt dgP.2 1, stmtAt dgP.2 2] _) _ _ _
  refine wpAny_execs_cons (dg_mod ((e hx hdg).symm ▸ F) N fun h1 k1 m1 t1 F1 N1 hx1 hd1 => ?_)
  have b1 := (fdiv_fmod_facts n 1225).2.2.1 (by decide)
  have b2 := (fdiv_fmod_facts (n.fmod 1225) 35).2.2.1 (by decide)
  refine wpAny_execs_cons (dg_app ((e hx1 hd1).symm ▸ F1) N1 off hi (by omega) fun h2 k2 t2 c2 F2 N2 => ?_)
  refine wpAny_execs_cons ?_
  refine dg_while F2 N2 (by rw [e hx1 hd1]; exact hx1) (by rw [e hx1 hd1]; exact hd1) off (hi.append (.cons _ _ .nil)) (by rw [List.length_append]; simp; omega) b1.1 b1.2 fun h3 k3 m3 us3 ds3 c3 F3 hd3 N3 hi3 hl3 hm3 hr3 => ?_
  refine wpAny_execs_nil (hq _ _ _ _ _ _ F3 hd3 N3 hi3 (by rw [List.length_append] at hl3; simpa using hl3) (fun z => ?_) fun d hd => ?_)
  · have := hm3 ((n.fmod 1225).fmod 35) (by simp)
    rw [z] at this
    exact nomatch this
  · rcases hr3 d hd with h | h
    · rcases List.mem_append.mp h with h | h
      · exact .inl h
      · rw [List.mem_singleton.mp h]; exact .inr b2
    · exact .inr h
theorem dg_slice {Dn nl : Addr} {c c0 : Nat} {us vs : List Value} {ns : List Int} {u : Str → Option Value}
    (X : (frag w.params).In h₀) (F : Fr h₀ L sh (kstB u [(Str.ofString "numbers", .ref nl), (Str.ofString "digits", .ref Dn)])) (N : News h₀ L sh ((Dn, listOf us.toArray c0) :: (nl, listOf vs.toArray c) :: rest)) (hi : IntsAre vs ns) (hz : ns.length ≤ 64)
    {Q : Value → Shared → Prop}
    (hq : ∀ h' k sl ws c', Fr h₀ L h' (kstB u [(Str.ofString "numbers", .ref nl), (Str.ofString "digits", .ref Dn)]) → News h₀ L h' ((sl, listOf ws.toArray c') :: (Dn, listOf us.toArray c0) :: (nl, listOf vs.toArray c) :: rest) → IntsAre ws (ns.take 40) → (∀ q ∈ (Dn, listOf us.toArray c0) :: (nl, listOf vs.toArray c) :: rest, @LT.lt Nat _ q.1 sl) → Q (.ref sl) ⟨h', sg, sd, k, so⟩) :
    wpAny (model prog w) (dgA dp un gd L outer) (eval dgP.1 (dgE L)) Q E ⟨sh, sg, sd, sk, so⟩ := by
  have hlen := IntsAre.length hi
  show wpAny _ _ (eval (.Subscript _ _ _) _) _ _ _
  k_steps
  exact hq _ _ _ _ _ (by assumption) (by assumption) (by assumption) (allLt_dg (by assumption))
theorem intsGet {vs : List Value} {ns : List Int} (hi : IntsAre vs ns) {i : Nat} {v : Value} (h : vs[i]? = some v) : ∃ n t, v = .int n t := by
  have hi' : i < ns.length := by rw [← IntsAre.length hi]; exact (List.getElem?_eq_some_iff.mp h).1
  obtain ⟨t, hx⟩ := hi.get i (ns[i]'hi') (List.getElem?_eq_getElem hi')
  exact ⟨_, t, (Option.some.inj (hx.symm.trans h)).symm⟩
theorem dg_for {Dn nl : Addr} {c : Nat} {vs : List Value} {ns : List Int} {u : Str → Option Value}
    (X : (frag w.params).In h₀) (F : Fr h₀ L sh (kstB u [(Str.ofString "numbers", .ref nl), (Str.ofString "digits", .ref Dn)])) (N : News h₀ L sh ((Dn, listOf #[] 0) :: (nl, listOf vs.toArray c) :: rest)) (hi : IntsAre vs ns) (hz : ns.length ≤ 64) (hn : ns ≠ []) (off : OwnOff ((nl, listOf vs.toArray c) :: rest) [Dn])
    {Q : Flow → Shared → Prop}
    (hq : ∀ h' k m' us' ds' c', Fr h₀ L h' m' → m' (Str.ofString "digits") = some (.ref Dn) → News h₀ L h' ((Dn, listOf us'.toArray c') :: (nl, listOf vs.toArray c) :: rest) → IntsAre us' ds' → ds'.length ≤ 80 → ds' ≠ [] → (∀ d ∈ ds', 0 ≤ d ∧ d < 35) → Q .next ⟨h', sg, sd, k, so⟩) (hE : PassesOwn (model prog w) (dgA dp un gd L outer) (dgE L) E := by passes_own) :
    wpAny (model prog w) (dgA dp un gd L outer) (exec (stmtAt ast__law_digits.1.2.1 1) (dgE L)) Q E ⟨sh, sg, sd, sk, so⟩ := by
  show wpAny _ _ (exec (.For (.Name (Str.ofString "x") _) dgP.1 dgP.2 [] _) _) _ _ _
  refine For_invVF F rfl rfl ?_ (fun _ => rfl) hE
  refine dg_slice X F N hi hz fun h1 k1 sl ws c1 F1 N1 hw lt => ?_
  have hwl := IntsAre.length hw
  have offS : OwnOff ((sl, listOf ws.toArray c1) :: (nl, listOf vs.toArray c) :: rest) [Dn] := by
    refine offCons (fun b hb => ?_) off
    rw [List.mem_singleton.mp hb]
    exact neN (Nat.ne_of_gt (lt (Dn, _) (.head _)))
  refine kdl_iter (news := (Dn, listOf #[] 0) :: (sl, listOf ws.toArray c1) :: (nl, listOf vs.toArray c) :: rest) (fun i m nx => ∃ us ds c', nx = (Dn, listOf us.toArray c') :: (sl, listOf ws.toArray c1) :: (nl, listOf vs.toArray c) :: rest ∧ m (Str.ofString "digits") = some (.ref Dn) ∧ IntsAre us ds ∧ ds.length ≤ 2 * i ∧ (0 < i → ds ≠ []) ∧ ∀ d ∈ ds, 0 ≤ d ∧ d < 35) rfl (.tail _ (.head _)) F1 (fun q hq => N1 q (by
      simp only [List.mem_cons] at hq ⊢
      rcases hq with h | h | h | h
      · exact .inr (.inl h)
      · exact .inl h
      · exact .inr (.inr (.inl h))
      · exact .inr (.inr (.inr h)))) ⟨[], [], 0, rfl, rfl, .nil, Nat.le_refl _, fun h => absurd h (Nat.lt_irrefl _), fun _ h => nomatch h⟩ ?_ ?_
  · rintro i v m₁ nx h tk own hv hoff _ ⟨us, ds, c', rfl, hdg, hi', hl', hn', hr'⟩ F₁ N₁
    obtain ⟨n, t, rfl⟩ := intsGet hw hv
    have hlt : i < 40 := by
      have := (List.getElem?_eq_some_iff.mp hv).1
      rw [hwl, List.length_take] at this
      omega
    have off' : OwnOff ((sl, listOf ws.toArray c1) :: (nl, listOf vs.toArray c) :: rest ++ own) [Dn] := by
      intro q hq b hb
      rcases List.mem_append.mp hq with hq | hq
      · exact offS q hq b hb
      · rw [List.mem_singleton.mp hb]; exact hoff q hq Dn (by simp)
    refine dg_turn F₁ (by rw [if_pos rfl]) (by rw [if_neg (by decide +kernel)]; exact hdg) N₁ off' hi' (by omega) fun h2 k2 m2 us2 ds2 c2 F2 hd2 N2 hi2 hl2 hn2 hr2 => ?_
    refine ⟨h2, k2, m2, _, _, rfl, F2, N2, fun q hq => (List.mem_cons.mp hq).elim (fun h => List.mem_cons.mpr (.inl h)) (fun h => List.mem_cons_of_mem _ (List.mem_append.mpr (.inl h))), fun q hq => List.mem_cons_of_mem _ (List.mem_append.mpr (.inr hq)), ?_, ?_, us2, ds2, c2, rfl, hd2, hi2, by omega, fun _ => hn2, fun d hd => ?_⟩
    · exact hoff
    · exact .tail _ (.head _)
    · rcases hr2 d hd with h | h
      · exact hr' d h
      · exact h
  · rintro m₁ nx h tk ⟨us, ds, c', rfl, hdg, hi', hl', hn', hr'⟩ F₁ N₁
    have e1 : ws.length = min 40 ns.length := by rw [hwl, List.length_take]
    have e2 : 0 < ns.length := List.length_pos_iff.mpr hn
    exact hq _ _ _ _ _ _ F₁ hdg (fun q hq => N₁ q (by
      simp only [List.mem_cons] at hq ⊢
      rcases hq with h | h | h
      · exact .inl h
      · exact .inr (.inr (.inl h))
      · exact .inr (.inr (.inr h)))) hi' (by omega) (hn' (by omega)) hr'
theorem offLt {own : List (Addr × Obj)} {d : Addr} (h : ∀ q ∈ own, @LT.lt Nat _ q.1 d) : OwnOff own [d] := fun q hq b hb => by
  rw [List.mem_singleton.mp hb]
  exact neN (Nat.ne_of_lt (h q hq))
theorem dg_forM {Dn nl : Addr} {c : Nat} {vs : List Value} {ns : List Int} {m : Str → Option Value}
    (X : (frag w.params).In h₀) (F : Fr h₀ L sh m) (N : News h₀ L sh ((Dn, listOf #[] 0) :: (nl, listOf vs.toArray c) :: rest)) (h1 : m (Str.ofString "numbers") = some (.ref nl)) (h2 : m (Str.ofString "digits") = some (.ref Dn)) (hi : IntsAre vs ns) (hz : ns.length ≤ 64) (hn : ns ≠ []) (lt : ∀ q ∈ (nl, listOf vs.toArray c) :: rest, @LT.lt Nat _ q.1 Dn)
    {Q : Flow → Shared → Prop}
    (hq : ∀ h' k m' us' ds' c', Fr h₀ L h' (kstB m' [(Str.ofString "digits", .ref Dn)]) → News h₀ L h' ((Dn, listOf us'.toArray c') :: (nl, listOf vs.toArray c) :: rest) → IntsAre us' ds' → ds'.length ≤ 80 → ds' ≠ [] → (∀ d ∈ ds', 0 ≤ d ∧ d < 35) → Q .next ⟨h', sg, sd, k, so⟩) (hE : PassesOwn (model prog w) (dgA dp un gd L outer) (dgE L) E := by passes_own) :
    wpAny (model prog w) (dgA dp un gd L outer) (exec (stmtAt ast__law_digits.1.2.1 1) (dgE L)) Q E ⟨sh, sg, sd, sk, so⟩ := by
  have e := kstB_self (m := m) (ps := [(Str.ofString "numbers", .ref nl), (Str.ofString "digits", .ref Dn)]) (by
    intro q hq
    rcases List.mem_cons.mp hq with rfl | hq
    · exact h1
    · rw [List.mem_singleton.mp hq]; exact h2)
  exact dg_for X (e.symm ▸ F) N hi hz hn (offLt lt) (fun h' k m' us' ds' c' F' h' N' => by
    have e' := kstB_self (m := m') (ps := [(Str.ofString "digits", .ref Dn)]) (by
      intro q hq
      rw [List.mem_singleton.mp hq]; exact h')
    exact hq _ _ m' _ _ _ (e'.symm ▸ F') N') hE
end
local macro_rules | `(tactic| walk_at "exec For Name Subscript cons nil") => `(tactic| (k_dflt (refine' dg_forM ?X ?F ?N ?h1 ?h2 ?hi ?hz ?hn ?lt ?_; (case X => k_asm); (case F => k_asm); (case N => k_asm); (case h1 => exact rfl); (case h2 => exact rfl); (case hi => assumption); (case hz => assumption); (case hn => assumption); (case lt => first | assumption | exact allLt_dg (by assumption))); intro h1 k1 m1 us1 ds1 c1 F1 N1 hi1 hl1 hn1 hr1; (try k_sweep)))
section
variable {prog : Program} {w : World} {p : Program} {loose : List Str} {mean : ExcName → Option Value} {mg mb : Str → Option Value} {dp un : Nat} {gd : Option (List Code)} {cn : Str} {cs : Scope} {a : Addr} {ccd : Value} {cl : List (Str × Addr)} {outer : List Env} {A₀ : Around} {base h₀ : Heap} {L : Addr} {m : Str → Option Value} {sh : Heap} {sg : Array GenState} {sd : Drawn} {sk : Nat} {so : OsState} {Q E : Value → Shared → Prop} {news : List (Addr × Obj)}
theorem law_digits {nl : Addr} {c : Nat} {vs : List Value} {ns : List Int} (hl : ns.length ≤ 64) (hn : ns ≠ []) (hi : IntsAre vs ns)
    (B : Below A₀ base outer h₀) (F : Fr h₀ L sh m) (X : (frag w.params).In h₀) (N : News h₀ L sh ((nl, listOf vs.toArray c) :: news)) (T : Top p loose mean mg mb h₀) (hk : cs.kind = .function) (hd : dp + 4 < recursionLimit)
    (hret : ∀ Dn h' k us ds c', (∀ q ∈ (nl, listOf vs.toArray c) :: news, @LT.lt Nat _ q.1 Dn) → Fr h₀ L h' m → News h₀ L h' ((Dn, listOf us.toArray c') :: (nl, listOf vs.toArray c) :: news) → IntsAre us ds → ds ≠ [] → ds.length ≤ 80 → (∀ d ∈ ds, 0 ≤ d ∧ d < 35) → Q (.ref Dn) ⟨h', sg, sd, k, so⟩) :
    wpAny (model prog w) (ktrTop dp un gd cn cs L a ccd cl outer) (call (.ref 733) [.ref nl]) Q E ⟨sh, sg, sd, sk, so⟩ := by
  have hlen := IntsAre.length hi
  refine wpAny_call ?_
  k_dflt ktr_enter
  k_steps
  exact hret _ _ _ _ _ _ (allLt_dg (by assumption)) (by assumption) (by assumption) (by assumption) (by assumption) (by assumption) (by assumption)
end
section
open PySem.Builtin PySem.Builtin.Deque
theorem mro_deque : mroOf (.type "collections.deque") = pure [.type "collections.deque", .type "object"] := by rw [mroOf_type]; kernel_rfl
theorem lookup_deque_new : typeLookup (.type "collections.deque") "__new__" = pure (some (.builtin "collections.deque.__new__")) := by rw [typeLookup_type, builtinLookup_eq_fast]; kernel_rfl
theorem slot_deque_init : Slot "collections.deque" "__init__" "collections.deque.__init__" :=
  .of (owner := "collections.deque") (n := "__init__") (by rw [typeLookup_type, builtinLookup_eq_fast]; kernel_rfl) (by decide +kernel) (by decide +kernel) (by decide +kernel)
    (by first | exact .inl (by decide +kernel) | exact .inr (by decide +kernel)) (by rw [isSubtype_type]; kernel_rfl)
theorem sub_deque : isSubtype (.type "collections.deque") (.type "collections.deque") = pure true := by rw [isSubtype_type]; kernel_rfl
theorem called_deque : TypeCalled "collections.deque" "collections.deque.__new__" "collections.deque.__init__" :=
  ⟨by decide +kernel, by decide +kernel, ⟨_, _, mro_deque⟩, madeBy_type mro_deque lookup_deque_new (by decide +kernel), by decide +kernel, sub_deque, slot_deque_init⟩
theorem typeCall_deque : checkTypeCall "collections.deque" ⟨[], []⟩ = pure () := by kernel_rfl
theorem newCall_deque : checkBuiltinCall "collections.deque.__new__" ⟨[.type "collections.deque"], []⟩ = pure () := by kernel_rfl
theorem plain_deque_new : plainId "collections.deque.__new__" = true := by decide +kernel
theorem entry_deque_new : entryFor table "collections.deque.__new__" = some Builtin.«collections.deque.__new__» := entryFor_of_tree (by kernel_rfl)
theorem entry_deque_init : entryFor table "collections.deque.__init__" = some Builtin.«collections.deque.__init__» := entryFor_of_tree (by kernel_rfl)
theorem args_deque_init (a : Value) : argsOk "collections.deque.__init__" ⟨[a], []⟩ := by unfold argsOk; kernel_rfl
theorem noDict_deque : typeHasDict (.type "collections.deque") = false := by decide +kernel
section
variable {prog : Program} {w : World} {A : Around} {E : Value → Shared → Prop} {s : Shared}
theorem code_deque_new {Q₁ : Value → Shared → Prop}
    (h : Q₁ (.ref s.heap.objs.size) { s with heap := s.heap.push (dequeO 0 []) }) :
    codeAny (model prog w) A (.call (.builtin "collections.deque.__new__") ⟨[.type "collections.deque"], []⟩) (wants Q₁ E) s := by
  refine codeAny_of_tree ?_
  show wpAny _ A.in1 (do checkBuiltinCall "collections.deque.__new__" ⟨[.type "collections.deque"], []⟩; again (.builtin "collections.deque.__new__" ⟨[.type "collections.deque"], []⟩)) _ _ s
  refine wpAny_bind (wpAny_of_eq newCall_deque (wpAny_pure ⟨plainId_quiet plain_deque_new _, codeAny_builtin entry_deque_new ?_⟩))
  rw [Around.under_plainId plain_deque_new _]
  have hsub := sub_deque
  have hd := noDict_deque
  obtain ⟨hp, g, d, tk, os⟩ := s
  unfold Builtin.«collections.deque.__new__» Deque.newArgs Deque.ty Deque.new
  simp only [hd]
  wp_walk
  exact h
theorem call_deque {Q : Value → Shared → Prop} (h : ∀ h', (∀ b o, s.heap.get? b = some o → h'.get? b = some o) → h'.get? s.heap.objs.size = some (dequeO 0 []) → Q (.ref s.heap.objs.size) { s with heap := h' }) :
    wpAny (model prog w) A (call (.type "collections.deque") []) Q E s := by
  refine callType_codes (Q₁ := fun obj s₁ => obj = .ref s.heap.objs.size ∧ s₁ = { s with heap := s.heap.push (dequeO 0 []) }) called_deque typeCall_deque entry_deque_init (code_deque_new ⟨rfl, rfl⟩) fun obj s₁ h₁ => ?_
  obtain ⟨rfl, rfl⟩ := h₁
  have hS : (s.heap.push (dequeO 0 [])).get? s.heap.objs.size = some (dequeO 0 []) := Heap.get?_push_size _ rfl
  refine ⟨⟨_, hS, rfl⟩, args_deque_init _, ?_⟩
  show wpAny _ A.in1.in1 (setField (.ref s.heap.objs.size) 0 .none >>= fun _ => Deque.clear (.ref s.heap.objs.size) >>= fun _ => ret .none) _ _ _
  show wpAny _ _ (updateField s.heap.objs.size 0 .none >>= fun _ => Deque.clear (.ref s.heap.objs.size) >>= fun _ => ret .none) _ _ _
  generalize hh : s.heap.push (dequeO 0 []) = h₁ at hS ⊢
  have hk : ∀ b o, s.heap.get? b = some o → h₁.get? b = some o := fun b o e => hh ▸ Heap.get?_push_of_some _ e
  refine wpAny_bind ?_
  unfold updateField
  refine wpAny_bind (wpAny_load hS ?_)
  refine wpAny_ite ?_
  rw [if_pos (by simp)]
  refine wpAny_update hS ?_
  have hg : (h₁.update s.heap.objs.size (Obj.mapFields fun vs => vs.setIfInBounds 0 .none)).get? s.heap.objs.size = some (dequeO 0 []) := Heap.get?_update_self _ hS rfl
  refine wpAny_bind ?_
  unfold Deque.clear Deque.items
  refine wpAny_bind (wpAny_bind (d_fields hg (wpAny_pure ?_)))
  refine wpAny_pure (wpAny_pure ⟨rfl, h _ (fun b o e => ?_) hg⟩)
  rw [Heap.get?_update_other _ _ (fun z : s.heap.objs.size = b => absurd (Heap.lt_size e) (by rw [← z]; exact Nat.lt_irrefl _))]
  exact hk b o e
end
end
theorem wp_alloc2 {α : Type} {K : Frag} {M : Model} {A : Around} {E : Value → Shared → Prop} {Q : α → Shared → Prop} {s : Shared} {h₀ : Heap} {L : Addr} {m : Str → Option Value} {news : List (Addr × Obj)} {t : Sem α} {o1 : Obj} {o2 : Addr → Obj} {v : Addr → Addr → α}
    (e : ∀ d x, ((peekA K ⟨M.prog, M.w.params⟩ t).bind fun r => (peekA K ⟨M.prog, M.w.params⟩ (r.2 d)).bind fun r' => (peek K ⟨M.prog, M.w.params⟩ (r'.2 x)).map fun y => (r.1, r'.1, y)) = some (o1, o2 d, v d x))
    (F : Fr h₀ L s.heap m) (N : News h₀ L s.heap news) (X : K.In h₀) (hf : o1.isFreed = false) (hg : ∀ d, (o2 d).isFreed = false)
    (h : ∀ h' d x, Fr h₀ L h' m → News h₀ L h' ((x, o2 d) :: (d, o1) :: news) → (∀ q ∈ news, @LT.lt Nat _ q.1 d) → @LT.lt Nat _ d x → Q (v d x) { s with heap := h' }) : wpAny M A t Q E s := by
  obtain ⟨⟨o, k⟩, h1, _⟩ := Option.bind_eq_some_iff.mp (e 0 0)
  have e' : ∀ d x, ((peekA K ⟨M.prog, M.w.params⟩ (k d)).bind fun r' => (peek K ⟨M.prog, M.w.params⟩ (r'.2 x)).map fun y => (o, r'.1, y)) = some (o1, o2 d, v d x) := fun d x => by
    have := e d x
    rw [h1] at this
    exact this
  have ho : o = o1 := by
    obtain ⟨r', _, h3⟩ := Option.bind_eq_some_iff.mp (e' 0 0)
    obtain ⟨y, _, h4⟩ := Option.map_eq_some_iff.mp h3
    exact (Prod.mk.inj h4).1
  subst ho
  refine wp_of_peekA F N (X.keeps F.keep) hf t k h1 fun h' F' N' l => ?_
  obtain ⟨⟨o', k'⟩, h2, _⟩ := Option.bind_eq_some_iff.mp (e' s.heap.objs.size 0)
  have e2 : ∀ x, (peek K ⟨M.prog, M.w.params⟩ (k' x)).map (fun y => (o, o', y)) = some (o, o2 s.heap.objs.size, v s.heap.objs.size x) := fun x => by
    have := e' s.heap.objs.size x
    rw [h2] at this
    exact this
  have ho' : o' = o2 s.heap.objs.size := by
    obtain ⟨y, _, h4⟩ := Option.map_eq_some_iff.mp (e2 0)
    exact (Prod.mk.inj (Prod.mk.inj h4).2).1
  subst ho'
  refine wp_of_peekA (s := { s with heap := h' }) F' N' (X.keeps F'.keep) (hg _) _ k' h2 fun h'' F'' N'' l' => ?_
  obtain ⟨y, h3, h4⟩ := Option.map_eq_some_iff.mp (e2 h'.objs.size)
  have hy : y = v s.heap.objs.size h'.objs.size := (Prod.mk.inj (Prod.mk.inj h4).2).2
  subst hy
  exact (Looks.of_peek (M := M) (X.keeps F''.keep) h3).here (s := { s with heap := h'' }) (h h'' _ _ F'' N'' l (l' _ (.head _)))
theorem pk_check (prog : Program) (P : Params) : peek (frag P) ⟨prog, P⟩ (checkBuiltinCall "object.__new__" ⟨[.ref 587], []⟩) = some () := by kernel_rfl
theorem pk_new (prog : Program) (P : Params) (d x : Addr) : ((peekA (frag P) ⟨prog, P⟩ (Builtin.«object.__new__» ⟨[.ref 587], []⟩)).bind fun r => (peekA (frag P) ⟨prog, P⟩ (r.2 d)).bind fun r' => (peek (frag P) ⟨prog, P⟩ (r'.2 x)).map fun v => (r.1, r'.1, v)) = some (dictOf [] 0, instObj 587 d, .done (.ret (.ref x))) := by kernel_rfl
theorem pk_scheck (prog : Program) (P : Params) : peek (frag P) ⟨prog, P⟩ (checkBuiltinCall "staticmethod.__get__" ⟨[.ref 84, .none, .ref 587], []⟩) = some () := by kernel_rfl
theorem pk_sget (prog : Program) (P : Params) : peek (frag P) ⟨prog, P⟩ (Builtin.«staticmethod.__get__» ⟨[.ref 84, .none, .ref 587], []⟩) = some (.done (.ret (.ref 80))) := by kernel_rfl
theorem plain_sget : plainId "staticmethod.__get__" = true := by decide +kernel
theorem plain_onew : plainId "object.__new__" = true := by decide +kernel
theorem entry_sget : entryFor table "staticmethod.__get__" = some Builtin.«staticmethod.__get__» := entryFor_of_tree (by kernel_rfl)
theorem entry_onew : entryFor table "object.__new__" = some Builtin.«object.__new__» := entryFor_of_tree (by kernel_rfl)
theorem pk_made (prog : Program) (P : Params) : peek (frag P) ⟨prog, P⟩ (Bind.madeBy (.ref 587)) = some none := by kernel_rfl
theorem pk_find (P : Params) : findCls (frag P) (.ref 587) (.type "type") "__new__" = some (.get (.builtin "staticmethod.__get__") (.ref 84) .none (.ref 587)) := by kernel_rfl
theorem pk_third (P : Params) : nsIn (frag P) cStatics "thirdparty.any" = some none := by kernel_rfl
section
variable {prog : Program} {w : World} {A : Around} {h₀ : Heap} {L : Addr} {m : Str → Option Value} {s : Shared} {E : Value → Shared → Prop} {news : List (Addr × Obj)}
theorem onew {Q : Value → Shared → Prop} (F : Fr h₀ L s.heap m) (N : News h₀ L s.heap news) (X : (frag w.params).In h₀)
    (h : ∀ h' d x, Fr h₀ L h' m → News h₀ L h' ((x, instObj 587 d) :: (d, dictOf [] 0) :: news) → (∀ q ∈ news, @LT.lt Nat _ q.1 d) → @LT.lt Nat _ d x → Q (.ref x) { s with heap := h' }) :
    wpAny (model prog w) A (call (.builtin "object.__new__") [.ref 587]) Q E s := by
  refine wpAny_call (codeAny_call_builtin plain_onew entry_onew ((Looks.of_peek (M := model prog w) (X.keeps F.keep) (pk_check _ _)).here ?_))
  exact wp_alloc2 (M := model prog w) (v := fun _ x => .done (.ret (.ref x))) (pk_new _ _) F N X rfl (fun _ => rfl) fun h' d x F' N' l1 l2 => h h' d x F' N' l1 l2
theorem sget {Q : Value → Shared → Prop} (X : (frag w.params).In s.heap) (h : Q (.ref 80) s) :
    wpAny (model prog w) A (call (.builtin "staticmethod.__get__") [.ref 84, .none, .ref 587]) Q E s := by
  refine wpAny_call (codeAny_call_builtin plain_sget entry_sget ((Looks.of_peek (M := model prog w) X (pk_scheck _ _)).here ?_))
  exact (Looks.of_peek (M := model prog w) X (pk_sget _ _)).here h
end
local macro_rules | `(tactic| walk_at "call builtin:object.__new__") => `(tactic| ((with_reducible show wpAny _ _ (call (Value.builtin "object.__new__") [Value.ref _]) _ _ _); k_dflt (refine' onew ?F ?N ?X ?_; (case F => k_asm); (case N => k_asm); (case X => k_asm)); intro h' d' x' F' N' l1 l2; (try k_lt l1); (try k_lt2 l2); (try k_sweep)))
theorem newsDrop2 {h₀ h : Heap} {L : Addr} {a b c d : Addr × Obj} {news : List (Addr × Obj)} (N : News h₀ L h (a :: b :: c :: d :: news)) : News h₀ L h (a :: b :: news) := fun q hq => N q (by
  simp only [List.mem_cons] at hq ⊢
  rcases hq with h | h | h
  · exact .inl h
  · exact .inr (.inl h)
  · exact .inr (.inr (.inr (.inr h))))
theorem allLtTo {d : Addr} : ∀ {l : List (Addr × Obj)}, AllLt d l → ∀ q ∈ l, @LT.lt Nat _ q.1 d
  | [], _, _, h => nomatch h
  | _ :: _, ⟨a, b⟩, q, hq => by
    rcases List.mem_cons.mp hq with rfl | hq
    · exact a
    · exact allLtTo b q hq
theorem allLt_of3 {d : Addr} {a b : Prop} {l : List (Addr × Obj)} (h : a ∧ b ∧ AllLt d l) : ∀ q ∈ l, @LT.lt Nat _ q.1 d := allLtTo h.2.2
def D5 (t1 t2 t3 t4 t5 : Tok) : Nat → Tok
  | 1 => t1
  | 2 => t2
  | 3 => t3
  | 4 => t4
  | _ => t5
section
variable {prog : Program} {w : World} {p : Program} {loose : List Str} {mean : ExcName → Option Value} {mg mb : Str → Option Value} {dp un : Nat} {gd : Option (List Code)} {cn : Str} {cs : Scope} {a : Addr} {ccd : Value} {cl : List (Str × Addr)} {outer : List Env} {A₀ : Around} {base h₀ : Heap} {L : Addr} {m : Str → Option Value} {sh : Heap} {sg : Array GenState} {sd : Drawn} {sk : Nat} {so : OsState} {Q E : Value → Shared → Prop} {news : List (Addr × Obj)}
theorem new_sio {x : Str} {t : Tok} (hz : x.length ≤ 100000)
    (B : Below A₀ base outer h₀) (F : Fr h₀ L sh m) (X : (frag w.params).In h₀) (N : News h₀ L sh news) (T : Top p loose mean mg mb h₀) (hk : cs.kind = .function) (hd : dp + 6 < recursionLimit)
    (hret : ∀ h' k d x, Fr h₀ L h' m → News h₀ L h' ((x, instObj 587 d) :: (d, dictOf [] 0) :: news) → (∀ q ∈ news, @LT.lt Nat _ q.1 d) → @LT.lt Nat _ d x → Q (.ref x) ⟨h', sg, sd, k, so⟩) :
    wpAny (model prog w) (ktrTop dp un gd cn cs L a ccd cl outer) (call (.ref 80) [.ref 587, .str x t]) Q E ⟨sh, sg, sd, sk, so⟩ := by
  refine wpAny_call ?_
  k_dflt (refine' kp_both ?k1 ?k2 ?k3 ?k4 ?k5 ?kA ?kF ?kK ?k6 ?k7 ?k8 ?kV ?kX ?kQ ?kM ?kN ?kD ?kR ?kP ?kS ?kT ?kB ?_ ?c2 ?c3 ?c4 ?c5; (case kA => exact rfl); (case kF => exact rfl); (case kK => assumption); (case k1 => k_asm); (case k2 => k_asm); (case k3 => k_asm); (case k4 => k_asm); (case k5 => k_asm); (case k6 => k_is); (case k7 => k_is); (case k8 => ktr_room); (case kV => kp_lit); (case kX => kp_lit); (case kQ => exact rfl); (case kM => exact rfl); (case kN => exact rfl); (case kD => kp_flats); (case kR => exact rfl); (case kP => exact rfl); (case kS => exact fun _ => rfl); (case kT => exact fun _ _ => rfl); (case kB => exact fun _ _ => locs rfl); (case c5 => decide); (case c2 => exact rfl); (case c3 => exact rfl); (case c4 => exact rfl); k_whole; intro C' D' o' g' L' h' tk' l1 l2 lo' hs' fs' FG' F' N' B' X' T'; (try k_lt l1); (try k_lt2 l2); (try dsimp only); (try k_fold))
  k_steps
  exact hret _ _ _ _ (by assumption) (newsDrop2 (by assumption)) (allLt_of3 (by assumption)) (by assumption)
theorem init_sio {x : Str} {t : Tok} {ia ida : Addr} (hz : x.length ≤ 100000)
    (B : Below A₀ base outer h₀) (F : Fr h₀ L sh m) (X : (frag w.params).In h₀) (N : News h₀ L sh ((ia, instObj 587 ida) :: (ida, dictOf [] 0) :: news)) (off : OwnOff news [ia, ida]) (hlt : @LT.lt Nat _ ida ia) (T : Top p loose mean mg mb h₀) (hk : cs.kind = .function) (hd : dp + 6 < recursionLimit)
    (hret : ∀ h' k D tp, Fr h₀ L h' m → News h₀ L h' ((ia, instObj 587 ida) :: (ida, sioO w.params D x ((0 : Nat) : Int) tp) :: news) → Q .none ⟨h', sg, sd, k, so⟩) :
    wpAny (model prog w) (ktrTop dp un gd cn cs L a ccd cl outer) (call (.ref 357) [.ref ia, .str x t]) Q E ⟨sh, sg, sd, sk, so⟩ := by
  refine wpAny_call ?_
  k_dflt ktr_enter
  k_steps
  exact hret _ _ (D5 _ _ _ _ _) _ (by assumption) (by assumption)
theorem make_sio {x : Str} {t : Tok} (hz : x.length ≤ 100000)
    (B : Below A₀ base outer h₀) (F : Fr h₀ L sh m) (X : (frag w.params).In h₀) (N : News h₀ L sh news) (T : Top p loose mean mg mb h₀) (hk : cs.kind = .function) (hd : dp + 8 < recursionLimit)
    (hret : ∀ h' k D tp ida ia, Fr h₀ L h' m → News h₀ L h' ((ia, instObj 587 ida) :: (ida, sioO w.params D x ((0 : Nat) : Int) tp) :: news) → (∀ q ∈ news, @LT.lt Nat _ q.1 ida) → @LT.lt Nat _ ida ia → Q (.ref ia) ⟨h', sg, sd, k, so⟩) :
    wpAny (model prog w) (ktrTop dp un gd cn cs L a ccd cl outer) (call (.ref 587) [.str x t]) Q E ⟨sh, sg, sd, sk, so⟩ := by
  have X₁ := X.keeps F.keep
  refine wpAny_call (codeAny_of_tree ?_)
  show wpAny _ _ (callAny (.ref 587) _) _ _ _
  refine (Looks.of_peek (M := model prog w) (r := Fin.again (.call (.builtin "type.__call__") ⟨[.ref 587, .str x t], []⟩)) X₁ (by kernel_rfl)).here (And.intro rfl ?_)
  refine codeAny_call_builtin_at (Code.quiet_builtin _ (by decide +kernel)) entry_typeCall ((Looks.of_peek (M := model prog w) (r := ()) X₁ (by kernel_rfl)).here ?_)
  rw [show (ktrTop dp un gd cn cs L a ccd cl outer).under (.builtin "type.__call__" ⟨[.ref 587, .str x t], []⟩) = ktrTop (dp + 1) (un + 1) gd cn cs L a ccd cl outer from rfl]
  unfold Builtin.«type.__call__»
  have hm : Looks (model prog w) sh (mroOf (.ref 587)) [.ref 587, .ref 110, .ref 83, .type "object"] := Looks.of_peek (M := model prog w) X₁ (by kernel_rfl)
  have hmade : Looks (model prog w) sh (Bind.madeBy (.ref 587)) none := Looks.of_peek (M := model prog w) X₁ (pk_made _ _)
  have ht : Looks (model prog w) sh (typeOf (.ref 587)) (.type "type") := Looks.of_peek (M := model prog w) X₁ (by kernel_rfl)
  have hb : Looks (model prog w) sh (hookBefore (.type "type")) none := Looks.of_peek (M := model prog w) X₁ (by kernel_rfl)
  repeat ((fail_if_success (with_reducible show wpAny _ _ (getAttr _ _ _) _ _ _)); (first | simp only [List.isEmpty_cons, Bool.false_eq_true, if_false] | lk))
  refine cls_open (hook := none) X₁ (looks_opaque X₁ (pk_third _)) ht (by kernel_rfl) hb (by kernel_rfl) (pk_find _) ?_
  refine wpAny_bind (wpAny_holding (sget X₁ ?_))
  refine wpAny_pure ?_
  dsimp only
  rw [handedOut_of (by rfl)]
  refine wpAny_pure ?_
  refine wpAny_bind (wpAny_holding ?_)
  refine new_sio hz B F X N T hk (by omega) fun h₂ k₂ ida ia F₂ N₂ lt1 lt2 => ?_
  have I : InstAt h₂ ia (instObj 587 ida) 587 (some (dictOf [] 0)) := InstAt.of_news N₂ (.head _) (.tail _ (.head _))
  have X₂ := X.keeps F₂.keep
  have hs : Looks (model prog w) h₂ (isSubtype (.ref 587) (.ref 587)) true := Looks.of_peek (M := model prog w) X₂ (by kernel_rfl)
  have hI : Looks (model prog w) h₂ (isInstance (.ref ia) (.ref 587)) true := by
    unfold isInstance
    exact I.type.andThen hs
  refine wpAny_bind (hI.here ?_)
  rw [if_neg (by decide)]
  refine wpAny_bind (wpAny_holding (special_fn (name := "__init__") (args := [.str x t]) X₂ I (f := 357) (by kernel_rfl) (by kernel_rfl) ?_))
  have off : OwnOff news [ia, ida] := by
    intro q hq b hb
    have := lt1 q hq
    rcases List.mem_cons.mp hb with rfl | hb
    · exact neN (by omega)
    · rw [List.mem_singleton.mp hb]; exact neN (by omega)
  refine init_sio (dp := dp + 1) hz B F₂ X N₂ off lt2 T hk (by omega) fun h₃ k₃ D tp F₃ N₃ => ?_
  exact wpAny_pure (hret h₃ k₃ D tp ida ia F₃ N₃ lt1 lt2)
end
section
local macro_rules | `(tactic| walk_at "compareOp In str str") => `(tactic| first | refine in_lit (by assumption) ?_ | refine in_lit (b := true) (by decide +kernel) ?_ | refine in_lit (b := false) (by decide +kernel) ?_)
local macro_rules | `(tactic| walk_at "compareOp Eq str str") => `(tactic| first | refine eq_lit (by assumption) ?_ | refine eq_lit (b := true) (by decide +kernel) ?_ | refine eq_lit (b := false) (by decide +kernel) ?_)
local macro_rules | `(tactic| walk_at "truthy str") => `(tactic| (refine truthy_lit (by omega) (by assumption) ?_; intro _))
local macro_rules | `(tactic| walk_at "eval Attribute Name") => `(tactic| (k_dflt (refine' lex_get ?F ?X ?hm ?N ?e1 ?e2 ?hl ?hv ?_; (case F => k_asm); (case X => k_asm); (case hm => first | exact rfl | with_reducible assumption); (case N => k_asm); (case e1 => first | k_is | assumption); (case e2 => first | k_is | assumption); (case hl => first | k_get | assumption); (case hv => first | exact rfl | k_handed | assumption)); intro _))
local macro_rules | `(tactic| walk_at "setAttr ref") => `(tactic| (k_dflt (refine' lex_set ?F ?X ?N ?R ?off ?e1 ?hl ?e ?_; (case F => k_asm); (case X => k_asm); (case N => k_asm); (case R => assumption); (case off => assumption); (case e1 => k_is); (case hl => exact rfl); (case e => intro _; exact rfl)); intro _ _ _ _; (try k_sweep)))
local macro_rules | `(tactic| walk_at "call ref") => `(tactic| ((with_reducible show wpAny _ _ (call (Value.ref 533) _) _ _ _); k_dflt 
  (refine' read1 ?B ?F ?X ?N ?off ?T ?hk ?hat ?hz ?hlt ?hd ?_; (case B => k_asm); (case F => k_asm); (case X => k_asm); (case N => k_asm); (case off => exact offRead (by assumption) (by assumption)); (case T => k_asm); (case hk => rfl); (case hat => assumption); (case hz => assumption); (case hlt => exact Ord6.c (by assumption)); (case hd => ktr_room); intro h' tk' t' tp' F' N'; (try k_sweep))))
local macro_rules | `(tactic| walk_at "call ref") => `(tactic| ((with_reducible show wpAny _ _ (call (Value.ref 541) _) _ _ _); k_dflt 
  (refine' readline1 ?B ?F ?X ?N ?off ?T ?hk ?hat ?hc ?hr ?hz ?hlt ?hd ?_; (case B => k_asm); (case F => k_asm); (case X => k_asm); (case N => k_asm); (case off => exact offRead (by assumption) (by assumption)); (case T => k_asm); (case hk => rfl); (case hat => exact comAt (by assumption) (by assumption)); (case hc => exact comNe (by assumption) (by assumption)); (case hr => exact comHd (by assumption) (by assumption)); (case hz => assumption); (case hlt => exact Ord6.c (by assumption)); (case hd => ktr_room); intro v' t' h' tk' tp' F' N'; (try k_sweep))))
noncomputable def ifParts : Stmt → Expr × List Stmt × List Stmt
  | .If t b e _ => (t, b, e)
  | _ => (default, [], [])
noncomputable def c0 : Expr × List Stmt × List Stmt := ifParts (stmtAt rtLoop 3)
noncomputable def c1 : Expr × List Stmt × List Stmt := ifParts (stmtAt c0.2.2 0)
noncomputable def c2 : Expr × List Stmt × List Stmt := ifParts (stmtAt c1.2.2 0)
noncomputable def c3 : Expr × List Stmt × List Stmt := ifParts (stmtAt c2.2.2 0)
noncomputable def c4 : Expr × List Stmt × List Stmt := ifParts (stmtAt c3.2.2 0)
noncomputable abbrev rtA (dp un : Nat) (gd : Option (List Code)) (L : Addr) (outer : List Env) : Around := ktrTop dp un gd (Str.ofString "shlex.read_token") ast_shlex_read_token.1.2.2 L 690 (.ref 689) [] outer
noncomputable abbrev rtE (L : Addr) : Env := envOf (Str.ofString "shlex.read_token") ast_shlex_read_token.1.2.2 L 690 (.ref 689)
inductive LS where
  | sp
  | wd
  | qt (c : Nat)
  | eof
def LS.val : LS → Tok → Value
  | sp, t => .str (Str.ofString " ") t
  | wd, t => .str (Str.ofString "a") t
  | qt c, t => .str (S [c]) t
  | eof, _ => .none
abbrev locs0 (la : Addr) (qd : Bool) (te : Tok) : List (Str × Value) := [(Str.ofString "self", .ref la), (Str.ofString "quoted", .bool qd), (Str.ofString "escapedstate", .str (Str.ofString " ") te)]
def St (P : Params) (h₀ : Heap) (L la lda ia ida pa fa : Addr) (D K : Nat → Tok) (px : Bool) (x : Str) (rest : List (Addr × Obj)) (n : Nat) (st : LS) (tk : List Nat) (qd : Bool) (pvs : List Value) (ex : List (Str × Value)) (h : Heap) : Prop :=
  ∃ u te ts tl tt tp ln pst, Fr h₀ L h (kstB u (ex ++ locs0 la qd te)) ∧
    News h₀ L h ((ia, instObj 587 ida) :: (ida, sioO P D x (n : Int) tp) :: (la, instObj 722 lda) :: (lda, lexO P K px ia pa fa (st.val ts) ln tl (S tk) tt) :: (pa, dequeO pst pvs) :: (fa, dequeO 0 []) :: rest)
theorem St.of {P : Params} {h₀ : Heap} {L la lda ia ida pa fa : Addr} {D K : Nat → Tok} {px : Bool} {x : Str} {rest : List (Addr × Obj)} {n n' : Nat} {st : LS} {tk tk' : List Nat} {stv : Value} {qd : Bool} {pvs : List Value} {h : Heap} {m : Str → Option Value} {te ts tl tt tp : Tok} {ln pst : Int}
    (F : Fr h₀ L h m) (N : News h₀ L h ((ia, instObj 587 ida) :: (ida, sioO P D x (n' : Int) tp) :: (la, instObj 722 lda) :: (lda, lexO P K px ia pa fa stv ln tl (S tk') tt) :: (pa, dequeO pst pvs) :: (fa, dequeO 0 []) :: rest))
    (h1 : m (Str.ofString "self") = some (.ref la)) (h2 : m (Str.ofString "quoted") = some (.bool qd)) (h3 : m (Str.ofString "escapedstate") = some (.str (Str.ofString " ") te)) (hs : stv = st.val ts) (hn : n' = n) (ht : tk' = tk) :
    St P h₀ L la lda ia ida pa fa D K px x rest n st tk qd pvs [] h := by
  subst hs hn ht
  refine ⟨m, te, ts, tl, tt, tp, ln, pst, ?_, N⟩
  have e : kstB m ([] ++ locs0 la qd te) = m := by
    funext z
    refine kstB_eq (m₁ := m) (fun p hp => ?_) (fun _ => rfl)
    rcases List.mem_cons.mp hp with rfl | hp
    · exact h1
    rcases List.mem_cons.mp hp with rfl | hp
    · exact h2
    rw [List.mem_singleton.mp hp]
    exact h3
  rw [e]; exact F
theorem newsTail {h₀ h : Heap} {L : Addr} {q : Addr × Obj} {l : List (Addr × Obj)} (N : News h₀ L h (q :: l)) : News h₀ L h l := fun z hz => N z (.tail _ hz)
theorem execs_one {M : Model} {A : Around} {E : Value → Shared → Prop} {sh : Heap} {sg : Array GenState} {sd : Drawn} {sk : Nat} {so : OsState} {env : Env} {st : Stmt} {Q : Flow → Shared → Prop} (h : wpAny M A (exec st env) Q E ⟨sh, sg, sd, sk, so⟩) : wpAny M A (execs [st] env) Q E ⟨sh, sg, sd, sk, so⟩ :=
  wpAny_execs_cons (wpAny_mono h (fun f s' q => by cases f <;> first | exact q | exact wpAny_execs_nil q) fun _ _ x => x)
theorem if_true {M : Model} {A : Around} {E : Value → Shared → Prop} {sh : Heap} {sg : Array GenState} {sd : Drawn} {sk : Nat} {so : OsState} {env : Env} {t : Expr} {b e : List Stmt} {p : Pos} {Q : Flow → Shared → Prop}
    (h : wpAny M A (isTrue t env (eval t env)) (fun c s' => c = true ∧ wpAny M A (execs b env) Q E s') E ⟨sh, sg, sd, sk, so⟩) : wpAny M A (execs [.If t b e p] env) Q E ⟨sh, sg, sd, sk, so⟩ :=
  execs_one (wpAny_If (wpAny_mono h (fun c s' q => by rw [q.1]; exact q.2) fun _ _ x => x))
theorem if_false {M : Model} {A : Around} {E : Value → Shared → Prop} {sh : Heap} {sg : Array GenState} {sd : Drawn} {sk : Nat} {so : OsState} {env : Env} {t : Expr} {b e : List Stmt} {p : Pos} {Q : Flow → Shared → Prop}
    (h : wpAny M A (isTrue t env (eval t env)) (fun c s' => c = false ∧ wpAny M A (execs e env) Q E s') E ⟨sh, sg, sd, sk, so⟩) : wpAny M A (execs [.If t b e p] env) Q E ⟨sh, sg, sd, sk, so⟩ :=
  execs_one (wpAny_If (wpAny_mono h (fun c s' q => by rw [q.1]; exact q.2) fun _ _ x => x))
section
variable {prog : Program} {w : World} {p : Program} {loose : List Str} {mean : ExcName → Option Value} {mg mb : Str → Option Value} {dp un : Nat} {gd : Option (List Code)} {L : Addr} {outer : List Env} {A₀ : Around} {base h₀ : Heap} {sh : Heap} {sg : Array GenState} {sd : Drawn} {sk : Nat} {so : OsState} {E : Value → Shared → Prop} {rest : List (Addr × Obj)}
  {px qd : Bool} {x : Str} {n : Nat} {r tk : List Nat} {la lda ia ida pa fa : Addr} {D K : Nat → Tok} {pvs : List Value} {st : LS}
theorem head (B : Below A₀ base outer h₀) (X : (frag w.params).In h₀) (off : OwnOff rest [ia, ida, la, lda, pa, fa]) (R : Ord6 lda la ida ia pa fa) (T : Top p loose mean mg mb h₀) (hz : x.length ≤ 100000) (hd : dp + 5 < recursionLimit)
    {Q : Flow → Shared → Prop} {rs : List Stmt} (H : St w.params h₀ L la lda ia ida pa fa D K px x rest n st tk qd pvs [] sh) (hat : At x n r) {nl : Bool} (hnl : (S (r.take 1) == Str.ofString "\n") = nl)
    (hret : ∀ h' k tn, St w.params h₀ L la lda ia ida pa fa D K px x rest (n + (r.take 1).length) st tk qd pvs [(Str.ofString "nextchar", .str (S (r.take 1)) tn)] h' → wpAny (model prog w) (rtA dp un gd L outer) (execs rs (rtE L)) Q E ⟨h', sg, sd, k, so⟩) :
    wpAny (model prog w) (rtA dp un gd L outer) (execs (stmtAt rtLoop 0 :: stmtAt rtLoop 1 :: stmtAt rtLoop 2 :: rs) (rtE L)) Q E ⟨sh, sg, sd, sk, so⟩ := by
  show wpAny _ _ (execs (.If _ _ _ _ :: .If _ _ _ _ :: .If _ _ _ _ :: rs) _) _ _ _
  obtain ⟨u, te, ts, tl, tt, tp, ln, pst, F, N⟩ := H
  have hp : (((Str.ofString "").length : Int) != 0) = false := by decide +kernel
  have hl0 : (Str.ofString "").length = 0 := by decide +kernel
  k_steps
  all_goals exact hret _ _ _ ⟨_, _, _, _, _, _, _, _, by assumption, by assumption⟩
theorem t0 (X : (frag w.params).In h₀) {nc : Str} {tn : Tok} (H : St w.params h₀ L la lda ia ida pa fa D K px x rest n st tk qd pvs [(Str.ofString "nextchar", .str nc tn)] sh)
    {Q : Bool → Shared → Prop} {b : Bool} (hb : (match st with | .eof => true | _ => false) = b) (hq : ∀ k, Q b ⟨sh, sg, sd, k, so⟩) : wpAny (model prog w) (rtA dp un gd L outer) (isTrue c0.1 (rtE L) (eval c0.1 (rtE L))) Q E ⟨sh, sg, sd, sk, so⟩ := by
  show wpAny _ _ (isTrue (.Compare _ _ _ _) _ (eval (.Compare _ _ _ _) _)) _ _ _
  obtain ⟨u, te, ts, tl, tt, tp, ln, pst, F, N⟩ := H
  cases st <;> (dsimp only [LS.val] at N hb; subst hb; k_steps)
  all_goals exact hq _
theorem t1 (X : (frag w.params).In h₀) {nc : Str} {tn : Tok} (H : St w.params h₀ L la lda ia ida pa fa D K px x rest n st tk qd pvs [(Str.ofString "nextchar", .str nc tn)] sh)
    {Q : Bool → Shared → Prop} {b : Bool} (hb : (match st with | .sp => true | .qt c => S [c] == Str.ofString " " | _ => false) = b) (hn : st ≠ .eof) (hq : ∀ k, Q b ⟨sh, sg, sd, k, so⟩) : wpAny (model prog w) (rtA dp un gd L outer) (isTrue c1.1 (rtE L) (eval c1.1 (rtE L))) Q E ⟨sh, sg, sd, sk, so⟩ := by
  show wpAny _ _ (isTrue (.Compare _ _ _ _) _ (eval (.Compare _ _ _ _) _)) _ _ _
  obtain ⟨u, te, ts, tl, tt, tp, ln, pst, F, N⟩ := H
  cases st
  case eof => exact absurd rfl hn
  all_goals (dsimp only [LS.val] at N hb; subst hb; k_steps)
  all_goals exact hq _
theorem t2 (X : (frag w.params).In h₀) {nc : Str} {tn : Tok} (H : St w.params h₀ L la lda ia ida pa fa D K px x rest n st tk qd pvs [(Str.ofString "nextchar", .str nc tn)] sh)
    {Q : Bool → Shared → Prop} {b : Bool} (hb : (match st with | .wd => some false | .qt c => some (inB (Str.ofString "'\"") (S [c])) | _ => none) = some b) (hq : ∀ k, Q b ⟨sh, sg, sd, k, so⟩) : wpAny (model prog w) (rtA dp un gd L outer) (isTrue c2.1 (rtE L) (eval c2.1 (rtE L))) Q E ⟨sh, sg, sd, sk, so⟩ := by
  show wpAny _ _ (isTrue (.Compare _ _ _ _) _ (eval (.Compare _ _ _ _) _)) _ _ _
  obtain ⟨u, te, ts, tl, tt, tp, ln, pst, F, N⟩ := H
  cases st
  case eof => exact nomatch hb
  case sp => exact nomatch hb
  all_goals (dsimp only [LS.val] at N hb; cases hb; k_steps)
  all_goals exact hq _
theorem t34 (X : (frag w.params).In h₀) {nc : Str} {tn : Tok} (H : St w.params h₀ L la lda ia ida pa fa D K px x rest n .wd tk qd pvs [(Str.ofString "nextchar", .str nc tn)] sh)
    {Q : Flow → Shared → Prop} (hq : ∀ h' k, St w.params h₀ L la lda ia ida pa fa D K px x rest n .wd tk qd pvs [(Str.ofString "nextchar", .str nc tn)] h' → wpAny (model prog w) (rtA dp un gd L outer) (execs c4.2.1 (rtE L)) Q E ⟨h', sg, sd, k, so⟩) : wpAny (model prog w) (rtA dp un gd L outer) (execs c2.2.2 (rtE L)) Q E ⟨sh, sg, sd, sk, so⟩ := by
  obtain ⟨u, te, ts, tl, tt, tp, ln, pst, F, N⟩ := H
  dsimp only [LS.val] at N
  refine if_false (t := c3.1) (b := c3.2.1) (e := c3.2.2) ?_
  have h3 : ∀ {Q : Bool → Shared → Prop}, (∀ k, Q false ⟨sh, sg, sd, k, so⟩) → wpAny (model prog w) (rtA dp un gd L outer) (isTrue c3.1 (rtE L) (eval c3.1 (rtE L))) Q E ⟨sh, sg, sd, sk, so⟩ := by
    intro Q hq
    show wpAny _ _ (isTrue (.Compare _ _ _ _) _ (eval (.Compare _ _ _ _) _)) _ _ _
    k_steps
    all_goals exact hq _
  refine h3 fun k => ⟨rfl, ?_⟩
  refine if_true (t := c4.1) (b := c4.2.1) (e := c4.2.2) ?_
  have h4 : ∀ {Q : Bool → Shared → Prop}, (∀ h' k, Fr h₀ L h' (kstB u ([(Str.ofString "nextchar", .str nc tn)] ++ locs0 la qd te)) → News h₀ L h' ((ia, instObj 587 ida) :: (ida, sioO w.params D x (n : Int) tp) :: (la, instObj 722 lda) :: (lda, lexO w.params K px ia pa fa (.str (Str.ofString "a") ts) ln tl (S tk) tt) :: (pa, dequeO pst pvs) :: (fa, dequeO 0 []) :: rest) → Q true ⟨h', sg, sd, k, so⟩) →
      wpAny (model prog w) (rtA dp un gd L outer) (isTrue c4.1 (rtE L) (eval c4.1 (rtE L))) Q E ⟨sh, sg, sd, k, so⟩ := by
    intro Q hq
    show wpAny _ _ (isTrue (.Compare _ _ _ _) _ (eval (.Compare _ _ _ _) _)) _ _ _
    have e : ([Str.ofString "a", Str.ofString "c"].any fun x => x == Str.ofString "a") = true := by decide +kernel
    k_steps
    all_goals (rw [e]; exact hq _ _ (by assumption) (newsTail (by assumption)))
  exact h4 fun h' k F' N' => ⟨rfl, hq _ _ ⟨u, te, ts, tl, tt, tp, ln, pst, F', N'⟩⟩
theorem disp_sp (X : (frag w.params).In h₀) {nc : Str} {tn : Tok} (H : St w.params h₀ L la lda ia ida pa fa D K px x rest n .sp tk qd pvs [(Str.ofString "nextchar", .str nc tn)] sh)
    {Q : Flow → Shared → Prop} (hq : ∀ k, wpAny (model prog w) (rtA dp un gd L outer) (execs c1.2.1 (rtE L)) Q E ⟨sh, sg, sd, k, so⟩) : wpAny (model prog w) (rtA dp un gd L outer) (execs [stmtAt rtLoop 3] (rtE L)) Q E ⟨sh, sg, sd, sk, so⟩ :=
  if_false (t := c0.1) (b := c0.2.1) (e := c0.2.2) (t0 X H rfl fun k0 => ⟨rfl, if_true (t := c1.1) (b := c1.2.1) (e := c1.2.2) (t1 (sk := k0) X H rfl (fun e => nomatch e) fun k => ⟨rfl, hq k⟩)⟩)
theorem disp_qt (X : (frag w.params).In h₀) {nc : Str} {tn : Tok} {q : Nat} (h1 : (S [q] == Str.ofString " ") = false) (h2 : inB (Str.ofString "'\"") (S [q]) = true) (H : St w.params h₀ L la lda ia ida pa fa D K px x rest n (.qt q) tk qd pvs [(Str.ofString "nextchar", .str nc tn)] sh)
    {Q : Flow → Shared → Prop} (hq : ∀ k, wpAny (model prog w) (rtA dp un gd L outer) (execs c2.2.1 (rtE L)) Q E ⟨sh, sg, sd, k, so⟩) : wpAny (model prog w) (rtA dp un gd L outer) (execs [stmtAt rtLoop 3] (rtE L)) Q E ⟨sh, sg, sd, sk, so⟩ :=
  if_false (t := c0.1) (b := c0.2.1) (e := c0.2.2) (t0 X H rfl fun k0 => ⟨rfl, if_false (t := c1.1) (b := c1.2.1) (e := c1.2.2) (t1 (sk := k0) X H h1 (fun e => nomatch e) fun k1 => ⟨rfl, if_true (t := c2.1) (b := c2.2.1) (e := c2.2.2) (t2 (sk := k1) X H (congrArg some h2) fun k => ⟨rfl, hq k⟩)⟩)⟩)
theorem disp_wd (X : (frag w.params).In h₀) {nc : Str} {tn : Tok} (H : St w.params h₀ L la lda ia ida pa fa D K px x rest n .wd tk qd pvs [(Str.ofString "nextchar", .str nc tn)] sh)
    {Q : Flow → Shared → Prop} (hq : ∀ h' k, St w.params h₀ L la lda ia ida pa fa D K px x rest n .wd tk qd pvs [(Str.ofString "nextchar", .str nc tn)] h' → wpAny (model prog w) (rtA dp un gd L outer) (execs c4.2.1 (rtE L)) Q E ⟨h', sg, sd, k, so⟩) : wpAny (model prog w) (rtA dp un gd L outer) (execs [stmtAt rtLoop 3] (rtE L)) Q E ⟨sh, sg, sd, sk, so⟩ :=
  if_false (t := c0.1) (b := c0.2.1) (e := c0.2.2) (t0 X H rfl fun k0 => ⟨rfl, if_false (t := c1.1) (b := c1.2.1) (e := c1.2.2) (t1 (sk := k0) X H rfl (fun e => nomatch e) fun k1 => ⟨rfl, if_false (t := c2.1) (b := c2.2.1) (e := c2.2.2) (t2 (sk := k1) X H rfl fun k2 => ⟨rfl, t34 (sk := k2) X H hq⟩)⟩)⟩)
end
theorem posix_and {prog : Program} {w : World} {dp un : Nat} {gd : Option (List Code)} {outer : List Env} {E : Value → Shared → Prop} {sh : Heap} {sg : Array GenState} {sd : Drawn} {sk : Nat} {so : OsState} {h₀ : Heap} {L : Addr} {u : Str → Option Value} {te : Tok} {rest : List (Addr × Obj)} {o1 o2 : Obj}
    {px qd : Bool} {la lda ia ida pa fa : Addr} {D : Nat → Tok} {tl tt tn : Tok} {ln : Int} {st : Value} {tk : Str} {p1 p2 p3 p4 p5 p6 p7 : Pos} {nm nc y : Str} {ty : Tok} {Q : Bool → Shared → Prop}
    (X : (frag w.params).In h₀) (F : Fr h₀ L sh (kstB u ([(Str.ofString "nextchar", .str nc tn)] ++ locs0 la qd te))) (N : News h₀ L sh ((ia, o1) :: (ida, o2) :: (la, instObj 722 lda) :: (lda, lexO w.params D px ia pa fa st ln tl tk tt) :: rest))
    (e1 : plainGet (frag w.params) 722 nm = true) (e2 : findIn (frag w.params) (.ref 722) nm = some none) (hl : getL nm (lexE w.params D px ia pa fa st ln tl tk tt) = some (some (.str y ty))) (hb : inB y nc = false) (hq : ∀ k, Q false ⟨sh, sg, sd, k, so⟩) :
    wpAny (model prog w) (rtA dp un gd L outer) (isTrue (.BoolOp .And [.Attribute (.Name (Str.ofString "self") p1) (Str.ofString "posix") p2, .Compare (.Name (Str.ofString "nextchar") p3) [.In] [.Attribute (.Name (Str.ofString "self") p4) nm p5] p6] p7) (rtE L)
      (eval (.BoolOp .And [.Attribute (.Name (Str.ofString "self") p1) (Str.ofString "posix") p2, .Compare (.Name (Str.ofString "nextchar") p3) [.In] [.Attribute (.Name (Str.ofString "self") p4) nm p5] p6] p7) (rtE L))) Q E ⟨sh, sg, sd, sk, so⟩ := by
  cases px
  · k_steps
    all_goals exact hq _
  · k_steps
    all_goals exact hq _
theorem tok_or {prog : Program} {w : World} {dp un : Nat} {gd : Option (List Code)} {outer : List Env} {E : Value → Shared → Prop} {sh : Heap} {sg : Array GenState} {sd : Drawn} {sk : Nat} {so : OsState} {h₀ : Heap} {L : Addr} {u : Str → Option Value} {te : Tok} {rest : List (Addr × Obj)} {o1 o2 : Obj}
    {px qd b : Bool} {la lda ia ida pa fa : Addr} {D : Nat → Tok} {tl tt tn : Tok} {nc : Str} {ln : Int} {st : Value} {tk : Str} {p1 p2 p3 p4 p5 p6 p7 : Pos} {Q : Bool → Shared → Prop}
    (X : (frag w.params).In h₀) (F : Fr h₀ L sh (kstB u ([(Str.ofString "nextchar", .str nc tn)] ++ locs0 la qd te))) (N : News h₀ L sh ((ia, o1) :: (ida, o2) :: (la, instObj 722 lda) :: (lda, lexO w.params D px ia pa fa st ln tl tk tt) :: rest))
    (hz : tk.length ≤ 100000) (hb : ((tk.length : Int) != 0 || (px && qd)) = b) (hq : ∀ k, Q b ⟨sh, sg, sd, k, so⟩) :
    wpAny (model prog w) (rtA dp un gd L outer) (isTrue (.BoolOp .Or [.Attribute (.Name (Str.ofString "self") p1) (Str.ofString "token") p2, .BoolOp .And [.Attribute (.Name (Str.ofString "self") p3) (Str.ofString "posix") p4, .Name (Str.ofString "quoted") p5] p6] p7) (rtE L)
      (eval (.BoolOp .Or [.Attribute (.Name (Str.ofString "self") p1) (Str.ofString "token") p2, .BoolOp .And [.Attribute (.Name (Str.ofString "self") p3) (Str.ofString "posix") p4, .Name (Str.ofString "quoted") p5] p6] p7) (rtE L))) Q E ⟨sh, sg, sd, sk, so⟩ := by
  generalize hv : ((tk.length : Int) != 0) = v at hb
  cases v <;> cases px <;> cases qd <;> (simp only [Bool.or_true, Bool.or_false, Bool.and_true, Bool.and_false, Bool.false_or, Bool.true_or] at hb; subst hb; k_steps)
  all_goals exact hq _
section
local macro_rules | `(tactic| walk_at "isTrue BoolOp") => `(tactic| first
  | (with_reducible show wpAny _ _ (isTrue (Expr.BoolOp BoolOp.And _ _) _ _) _ _ _); k_dflt (refine' posix_and ?X ?F ?N ?e1 ?e2 ?hl ?hb ?_; (case X => k_asm); (case F => k_asm); (case N => k_asm); (case e1 => k_is); (case e2 => k_is); (case hl => k_get); (case hb => assumption); intro _)
  | (with_reducible show wpAny _ _ (isTrue (Expr.BoolOp BoolOp.Or _ _) _ _) _ _ _); k_dflt (refine' tok_or ?X ?F ?N ?hz ?hb ?_; (case X => k_asm); (case F => k_asm); (case N => k_asm); (case hz => omega); (case hb => assumption); intro _))
local macro_rules | `(tactic| walk_at "truthy ref") => `(tactic| ((k_dflt first | refine lex_truthyP (b := true) (by k_asm) (by exact Nat.le_of_ble_eq_true rfl) (by exact rfl) ?_ | refine lex_truthyP (b := false) (by k_asm) (by exact Nat.le_of_ble_eq_true rfl) (by exact rfl) ?_ | refine lex_truthyF (b := true) (by k_asm) (by exact Nat.le_of_ble_eq_true rfl) (by exact rfl) ?_ | refine lex_truthyF (b := false) (by k_asm) (by exact Nat.le_of_ble_eq_true rfl) (by exact rfl) ?_); intro _))
local macro_rules | `(tactic| walk_at "getMethod ref") => `(tactic| (k_dflt first | refine lex_methodP (by k_asm) slot_dapp type_dapp ?_ | refine lex_methodP (by k_asm) slot_dpop type_dpop ?_))
local macro_rules | `(tactic| walk_at "call builtin:collections.deque.appendleft") => `(tactic| (k_dflt (refine lex_app (by k_asm) (by k_asm) (by assumption) (by assumption) ?_); intro _ _ _; (try k_sweep)))
local macro_rules | `(tactic| walk_at "call builtin:collections.deque.popleft") => `(tactic| (k_dflt (refine lex_pop (by k_asm) (by k_asm) (by assumption) (by assumption) ?_); intro _ _ _; (try k_sweep)))
section
variable {prog : Program} {w : World} {p : Program} {loose : List Str} {mean : ExcName → Option Value} {mg mb : Str → Option Value} {dp un : Nat} {gd : Option (List Code)} {L : Addr} {outer : List Env} {A₀ : Around} {base h₀ : Heap} {sh : Heap} {sg : Array GenState} {sd : Drawn} {sk : Nat} {so : OsState} {E : Value → Shared → Prop} {rest : List (Addr × Obj)}
  {px qd : Bool} {x : Str} {n c : Nat} {r tk : List Nat} {la lda ia ida pa fa : Addr} {D K : Nat → Tok} {pvs : List Value} {st : LS}
theorem sp_char (B : Below A₀ base outer h₀) (X : (frag w.params).In h₀) (off : OwnOff rest [ia, ida, la, lda, pa, fa]) (R : Ord6 lda la ida ia pa fa) (T : Top p loose mean mg mb h₀) (hz : x.length ≤ 100000) (hd : dp + 5 < recursionLimit)
    {Q : Flow → Shared → Prop} {tn : Tok} (H : St w.params h₀ L la lda ia ida pa fa D K px x rest n .sp [] false pvs [(Str.ofString "nextchar", .str (S [c]) tn)] sh)
    {cw cc cd cq : Bool} (hw : inB (Str.ofString " \t\r\n") (S [c]) = cw) (hc : inB (Str.ofString "#") (S [c]) = cc) (hes : inB (Str.ofString "\\") (S [c]) = false) (hwd : inB (wordsV px) (S [c]) = cd) (hpn : inB (Str.ofString "") (S [c]) = false) (hqt : inB (Str.ofString "'\"") (S [c]) = cq)
    {b : Nat} {r : List Nat} (hcom : Com cc x n b r)
    (hW : ∀ h' k, cw = true → St w.params h₀ L la lda ia ida pa fa D K px x rest n .sp [] false pvs [] h' → Q .cont ⟨h', sg, sd, k, so⟩)
    (hC : ∀ h' k, cw = false → cc = true → St w.params h₀ L la lda ia ida pa fa D K px x rest (n + 1 + (r.take 1).length) .sp [] false pvs [] h' → Q .next ⟨h', sg, sd, k, so⟩)
    (hD : ∀ h' k, cw = false → cc = false → cd = true → St w.params h₀ L la lda ia ida pa fa D K px x rest n .wd [c] false pvs [] h' → Q .next ⟨h', sg, sd, k, so⟩)
    (hQ : ∀ h' k, cw = false → cc = false → cd = false → cq = true → St w.params h₀ L la lda ia ida pa fa D K px x rest n (.qt c) (cond px [] [c]) false pvs [] h' → Q .next ⟨h', sg, sd, k, so⟩)
    (hO : ∀ h' k, cw = false → cc = false → cd = false → cq = false → St w.params h₀ L la lda ia ida pa fa D K px x rest n .sp [c] false pvs [] h' → Q .brk ⟨h', sg, sd, k, so⟩) :
    wpAny (model prog w) (rtA dp un gd L outer) (execs c1.2.1 (rtE L)) Q E ⟨sh, sg, sd, sk, so⟩ := by
  obtain ⟨u, te, ts, tl, tt, tp, ln, pst, F, N⟩ := H
  dsimp only [LS.val] at N
  have hl1 : (S [c]).length = 1 := rfl
  have hl0 : (S []).length = 0 := rfl
  have hb1 : (((S [c]).length : Int) != 0) = true := rfl
  have hb0 : (((S []).length : Int) != 0 || (px && false)) = false := by cases px <;> rfl
  have hb2 : (((S [c]).length : Int) != 0 || (px && false)) = true := by cases px <;> rfl
  have hp : (((Str.ofString "").length : Int) != 0) = false := by decide +kernel
  have hl2 : (Str.ofString "").length = 0 := by decide +kernel
  show wpAny _ _ (execs [.If _ _ _ _] _) _ _ _
  k_steps
  all_goals first
    | exact hW _ _ (by assumption) (St.of (by assumption) (by assumption) rfl rfl rfl rfl rfl rfl)
    | exact hO _ _ (by assumption) (by assumption) (by assumption) (by assumption) (St.of (by assumption) (by assumption) rfl rfl rfl rfl rfl rfl)
    | exact hC _ _ (by assumption) (by assumption) (St.of (by assumption) (by assumption) rfl rfl rfl rfl rfl rfl)
    | exact hD _ _ (by assumption) (by assumption) (by assumption) (St.of (by assumption) (by assumption) rfl rfl rfl rfl rfl rfl)
    | exact hQ _ _ (by assumption) (by assumption) (by assumption) (by assumption) (St.of (by assumption) (by assumption) rfl rfl rfl rfl rfl (by cases px <;> first | rfl | contradiction))
end
section
variable {prog : Program} {w : World} {p : Program} {loose : List Str} {mean : ExcName → Option Value} {mg mb : Str → Option Value} {dp un : Nat} {gd : Option (List Code)} {L : Addr} {outer : List Env} {A₀ : Around} {base h₀ : Heap} {sh : Heap} {sg : Array GenState} {sd : Drawn} {sk : Nat} {so : OsState} {E : Value → Shared → Prop} {rest : List (Addr × Obj)}
  {px qd : Bool} {x : Str} {n c : Nat} {r tk : List Nat} {la lda ia ida pa fa : Addr} {D K : Nat → Tok} {pvs : List Value} {st : LS}
theorem wd_char (B : Below A₀ base outer h₀) (X : (frag w.params).In h₀) (off : OwnOff rest [ia, ida, la, lda, pa, fa]) (R : Ord6 lda la ida ia pa fa) (T : Top p loose mean mg mb h₀) (hz : x.length ≤ 100000) (hd : dp + 5 < recursionLimit)
    {Q : Flow → Shared → Prop} {tn : Tok} (H : St w.params h₀ L la lda ia ida pa fa D K px x rest n .wd tk qd [] [(Str.ofString "nextchar", .str (S [c]) tn)] sh) (htz : (S tk).length ≤ 100000) (htk : (((S tk).length : Int) != 0 || (px && qd)) = true)
    {cw cc : Bool} (hw : inB (Str.ofString " \t\r\n") (S [c]) = cw) (hc : inB (Str.ofString "#") (S [c]) = cc) (hes : inB (Str.ofString "\\") (S [c]) = false) (hwd : inB (wordsV px) (S [c]) = false) (hpn : inB (Str.ofString "") (S [c]) = false) (hqt : inB (Str.ofString "'\"") (S [c]) = false)
    {b : Nat} {r : List Nat} (hcom : Com cc x n b r)
    (hW : ∀ h' k, cw = true → St w.params h₀ L la lda ia ida pa fa D K px x rest n .sp tk qd [] [] h' → Q .brk ⟨h', sg, sd, k, so⟩)
    (hCp : ∀ h' k, cw = false → cc = true → px = true → St w.params h₀ L la lda ia ida pa fa D K px x rest (n + 1 + (r.take 1).length) .sp tk qd [] [] h' → Q .brk ⟨h', sg, sd, k, so⟩)
    (hCn : ∀ h' k, cw = false → cc = true → px = false → St w.params h₀ L la lda ia ida pa fa D K px x rest (n + 1 + (r.take 1).length) .wd tk qd [] [] h' → Q .next ⟨h', sg, sd, k, so⟩)
    (hO : ∀ h' k, cw = false → cc = false → St w.params h₀ L la lda ia ida pa fa D K px x rest n .sp tk qd [.str (S [c]) tn] [] h' → Q .brk ⟨h', sg, sd, k, so⟩) :
    wpAny (model prog w) (rtA dp un gd L outer) (execs c4.2.1 (rtE L)) Q E ⟨sh, sg, sd, sk, so⟩ := by
  obtain ⟨u, te, ts, tl, tt, tp, ln, pst, F, N⟩ := H
  dsimp only [LS.val] at N
  have hl1 : (S [c]).length = 1 := rfl
  have hb1 : (((S [c]).length : Int) != 0) = true := rfl
  have hp : (((Str.ofString "").length : Int) != 0) = false := by decide +kernel
  have hl2 : (Str.ofString "").length = 0 := by decide +kernel
  show wpAny _ _ (execs [.If _ _ _ _] _) _ _ _
  k_steps
  all_goals first
    | exact hW _ _ (by assumption) (St.of (by assumption) (by assumption) rfl rfl rfl rfl rfl rfl)
    | exact hO _ _ (by assumption) (by assumption) (St.of (by assumption) (by assumption) rfl rfl rfl rfl rfl rfl)
    | exact hCp _ _ (by assumption) (by assumption) (by assumption) (St.of (by assumption) (by assumption) rfl rfl rfl rfl rfl rfl)
    | exact hCn _ _ (by assumption) (by assumption) (by assumption) (St.of (by assumption) (by assumption) rfl rfl rfl rfl rfl rfl)
theorem qt_char (X : (frag w.params).In h₀) (off : OwnOff rest [ia, ida, la, lda, pa, fa]) (R : Ord6 lda la ida ia pa fa)
    {Q : Flow → Shared → Prop} {q : Nat} {tn : Tok} (H : St w.params h₀ L la lda ia ida pa fa D K px x rest n (.qt q) tk qd pvs [(Str.ofString "nextchar", .str (S [c]) tn)] sh) (htz : (S tk).length ≤ 100000)
    {ce : Bool} (he : (S [c] == S [q]) = ce) (hes : inB (Str.ofString "\\") (S [c]) = false)
    (hW : ∀ h' k, ce = true → px = true → St w.params h₀ L la lda ia ida pa fa D K px x rest n .wd tk true pvs [] h' → Q .next ⟨h', sg, sd, k, so⟩)
    (hB : ∀ h' k, ce = true → px = false → St w.params h₀ L la lda ia ida pa fa D K px x rest n .sp (tk ++ [c]) true pvs [] h' → Q .brk ⟨h', sg, sd, k, so⟩)
    (hN : ∀ h' k, ce = false → St w.params h₀ L la lda ia ida pa fa D K px x rest n (.qt q) (tk ++ [c]) true pvs [] h' → Q .next ⟨h', sg, sd, k, so⟩) :
    wpAny (model prog w) (rtA dp un gd L outer) (execs c2.2.1 (rtE L)) Q E ⟨sh, sg, sd, sk, so⟩ := by
  obtain ⟨u, te, ts, tl, tt, tp, ln, pst, F, N⟩ := H
  dsimp only [LS.val] at N
  have hl1 : (S [c]).length = 1 := rfl
  have hb1 : (((S [c]).length : Int) != 0) = true := rfl
  show wpAny _ _ (execs [.Assign _ _ _, .If _ _ _ _, .If _ _ _ _] _) _ _ _
  k_steps
  all_goals (try (rename News _ _ _ _ => NN; rw [S_append] at NN))
  all_goals first
    | exact hW _ _ (by assumption) (by assumption) (St.of (by assumption) (by assumption) rfl rfl rfl rfl rfl rfl)
    | exact hB _ _ (by assumption) (by assumption) (St.of (by assumption) (by assumption) rfl rfl rfl rfl rfl rfl)
    | exact hN _ _ (by assumption) (St.of (by assumption) (by assumption) rfl rfl rfl rfl rfl rfl)
end
section
variable {prog : Program} {w : World} {p : Program} {loose : List Str} {mean : ExcName → Option Value} {mg mb : Str → Option Value} {dp un : Nat} {gd : Option (List Code)} {L : Addr} {outer : List Env} {A₀ : Around} {base h₀ : Heap} {sh : Heap} {sg : Array GenState} {sd : Drawn} {sk : Nat} {so : OsState} {E : Value → Shared → Prop} {rest : List (Addr × Obj)}
  {px qd : Bool} {x : Str} {n c : Nat} {r tk : List Nat} {la lda ia ida pa fa : Addr} {D K : Nat → Tok} {pvs : List Value} {st : LS}
theorem sp_end (X : (frag w.params).In h₀) (off : OwnOff rest [ia, ida, la, lda, pa, fa]) (R : Ord6 lda la ida ia pa fa)
    {Q : Flow → Shared → Prop} {tn : Tok} (H : St w.params h₀ L la lda ia ida pa fa D K px x rest n .sp tk qd pvs [(Str.ofString "nextchar", .str (S []) tn)] sh)
    (hW : ∀ h' k, St w.params h₀ L la lda ia ida pa fa D K px x rest n .eof tk qd pvs [] h' → Q .brk ⟨h', sg, sd, k, so⟩) :
    wpAny (model prog w) (rtA dp un gd L outer) (execs c1.2.1 (rtE L)) Q E ⟨sh, sg, sd, sk, so⟩ := by
  obtain ⟨u, te, ts, tl, tt, tp, ln, pst, F, N⟩ := H
  dsimp only [LS.val] at N
  have hl1 : (S []).length = 0 := rfl
  have hb1 : (((S []).length : Int) != 0) = false := rfl
  show wpAny _ _ (execs [.If _ _ _ _] _) _ _ _
  k_steps
  exact hW _ _ (St.of (ts := ts) (by assumption) (by assumption) rfl rfl rfl rfl rfl rfl)
theorem wd_end (X : (frag w.params).In h₀) (off : OwnOff rest [ia, ida, la, lda, pa, fa]) (R : Ord6 lda la ida ia pa fa)
    {Q : Flow → Shared → Prop} {tn : Tok} (H : St w.params h₀ L la lda ia ida pa fa D K px x rest n .wd tk qd pvs [(Str.ofString "nextchar", .str (S []) tn)] sh)
    (hW : ∀ h' k, St w.params h₀ L la lda ia ida pa fa D K px x rest n .eof tk qd pvs [] h' → Q .brk ⟨h', sg, sd, k, so⟩) :
    wpAny (model prog w) (rtA dp un gd L outer) (execs c4.2.1 (rtE L)) Q E ⟨sh, sg, sd, sk, so⟩ := by
  obtain ⟨u, te, ts, tl, tt, tp, ln, pst, F, N⟩ := H
  dsimp only [LS.val] at N
  have hl1 : (S []).length = 0 := rfl
  have hb1 : (((S []).length : Int) != 0) = false := rfl
  show wpAny _ _ (execs [.If _ _ _ _] _) _ _ _
  k_steps
  exact hW _ _ (St.of (ts := ts) (by assumption) (by assumption) rfl rfl rfl rfl rfl rfl)
theorem eof_end (X : (frag w.params).In h₀) (off : OwnOff rest [ia, ida, la, lda, pa, fa]) (R : Ord6 lda la ida ia pa fa)
    {Q : Flow → Shared → Prop} {nc : Str} {tn : Tok} (H : St w.params h₀ L la lda ia ida pa fa D K px x rest n .eof tk qd pvs [(Str.ofString "nextchar", .str nc tn)] sh)
    (hW : ∀ h' k, St w.params h₀ L la lda ia ida pa fa D K px x rest n .eof [] qd pvs [] h' → Q .brk ⟨h', sg, sd, k, so⟩) :
    wpAny (model prog w) (rtA dp un gd L outer) (execs c0.2.1 (rtE L)) Q E ⟨sh, sg, sd, sk, so⟩ := by
  obtain ⟨u, te, ts, tl, tt, tp, ln, pst, F, N⟩ := H
  dsimp only [LS.val] at N
  have hs : Str.ofString "" = S [] := by decide +kernel
  show wpAny _ _ (execs [.Assign _ _ _, .Break _] _) _ _ _
  k_steps
  rename News _ _ _ _ => NN
  rw [hs] at NN
  exact hW _ _ (St.of (ts := ts) (by assumption) NN rfl rfl rfl rfl rfl rfl)
end
inductive Turn (px : Bool) (x : Str) : Nat → LS → List Nat → Bool → Flow → Nat → LS → List Nat → Bool → Option Nat → Prop
  | spW {n c r} (h : At x n (c :: r)) (hc : c = 32 ∨ c = 10 ∨ c = 9) : Turn px x n .sp [] false .cont (n + 1) .sp [] false none
  | spC {n b r} (h : At x n (35 :: b :: r)) (hb : b ≠ 10) (hr : ∀ z ∈ r.head?, z = 10) : Turn px x n .sp [] false .next (n + 1 + 1 + (r.take 1).length) .sp [] false none
  | spD {n r} (h : At x n (97 :: r)) : Turn px x n .sp [] false .next (n + 1) .wd [97] false none
  | spQ {n c r} (h : At x n (c :: r)) (hc : c = 39 ∨ c = 34) : Turn px x n .sp [] false .next (n + 1) (.qt c) (cond px [] [c]) false none
  | spO {n c r} (h : At x n (c :: r)) (hc : c = 40 ∨ c = 41) : Turn px x n .sp [] false .brk (n + 1) .sp [c] false none
  | spE {n} (h : At x n []) : Turn px x n .sp [] false .brk n .eof [] false none
  | wdW {n c r tk qd} (h : At x n (c :: r)) (hc : c = 32 ∨ c = 10 ∨ c = 9) (ht : (tk.length != 0 || (px && qd)) = true) (hz : tk.length ≤ 100) : Turn px x n .wd tk qd .brk (n + 1) .sp tk qd none
  | wdCp {n b r tk qd} (hp : px = true) (h : At x n (35 :: b :: r)) (hb : b ≠ 10) (hr : ∀ z ∈ r.head?, z = 10) (ht : (tk.length != 0 || (px && qd)) = true) (hz : tk.length ≤ 100) : Turn px x n .wd tk qd .brk (n + 1 + 1 + (r.take 1).length) .sp tk qd none
  | wdCn {n b r tk qd} (hp : px = false) (h : At x n (35 :: b :: r)) (hb : b ≠ 10) (hr : ∀ z ∈ r.head?, z = 10) (ht : (tk.length != 0 || (px && qd)) = true) (hz : tk.length ≤ 100) : Turn px x n .wd tk qd .next (n + 1 + 1 + (r.take 1).length) .wd tk qd none
  | wdO {n r tk qd} (h : At x n (40 :: r)) (ht : (tk.length != 0 || (px && qd)) = true) (hz : tk.length ≤ 100) : Turn px x n .wd tk qd .brk (n + 1) .sp tk qd (some 40)
  | wdE {n tk qd} (h : At x n []) : Turn px x n .wd tk qd .brk n .eof tk qd none
  | qtW {n q r tk qd} (hp : px = true) (h : At x n (q :: r)) (hq : q = 39 ∨ q = 34) (hz : tk.length ≤ 100) : Turn px x n (.qt q) tk qd .next (n + 1) .wd tk true none
  | qtB {n q r tk qd} (hp : px = false) (h : At x n (q :: r)) (hq : q = 39 ∨ q = 34) (hz : tk.length ≤ 100) : Turn px x n (.qt q) tk qd .brk (n + 1) .sp (tk ++ [q]) true none
  | qtN {n c q r tk qd} (h : At x n (c :: r)) (hq : q = 39 ∨ q = 34) (hc : c = 98 ∨ c = 32 ∨ c = 99) (hz : tk.length ≤ 100) : Turn px x n (.qt q) tk qd .next (n + 1) (.qt q) (tk ++ [c]) true none
  | eo {n r tk qd} (h : At x n r) : Turn px x n .eof tk qd .brk (n + (r.take 1).length) .eof [] qd none
def PbV : Option Nat → List Value → Prop
  | none, l => l = []
  | some c, l => ∃ t, l = [.str (S [c]) t]
theorem nz_int {tk : List Nat} {b c : Bool} (h : (tk.length != 0 || b) = c) : (((S tk).length : Int) != 0 || b) = c := by
  rw [S_len, ← h]
  congr 1
  cases tk <;> rfl
theorem wv (px : Bool) (c : Nat) {b : Bool} (h : ∀ p, inB (wordsV p) (S [c]) = b) : inB (wordsV px) (S [c]) = b := h px
section
variable {prog : Program} {w : World} {p : Program} {loose : List Str} {mean : ExcName → Option Value} {mg mb : Str → Option Value} {dp un : Nat} {gd : Option (List Code)} {L : Addr} {outer : List Env} {A₀ : Around} {base h₀ : Heap} {sh : Heap} {sg : Array GenState} {sd : Drawn} {sk : Nat} {so : OsState} {E : Value → Shared → Prop} {rest : List (Addr × Obj)}
  {px qd qd' : Bool} {x : Str} {n n' : Nat} {tk tk' : List Nat} {la lda ia ida pa fa : Addr} {D K : Nat → Tok} {st st' : LS} {f : Flow} {pb : Option Nat}
theorem turn (B : Below A₀ base outer h₀) (X : (frag w.params).In h₀) (off : OwnOff rest [ia, ida, la, lda, pa, fa]) (R : Ord6 lda la ida ia pa fa) (T : Top p loose mean mg mb h₀) (hz : x.length ≤ 100000) (hd : dp + 5 < recursionLimit)
    {Q : Flow → Shared → Prop} (H : St w.params h₀ L la lda ia ida pa fa D K px x rest n st tk qd [] [] sh) (t : Turn px x n st tk qd f n' st' tk' qd' pb)
    (hq : ∀ h' k pvs, PbV pb pvs → St w.params h₀ L la lda ia ida pa fa D K px x rest n' st' tk' qd' pvs [] h' → Q f ⟨h', sg, sd, k, so⟩) :
    wpAny (model prog w) (rtA dp un gd L outer) (execs rtLoop (rtE L)) Q E ⟨sh, sg, sd, sk, so⟩ := by
  have z0 : ∀ {b : Nat} {r : List Nat} {n : Nat}, Com false x n b r := fun e => nomatch e
  have zt : ∀ {l : List Nat}, l.length ≤ 100 → (S l).length ≤ 100000 := fun h => by rw [S_len]; omega
  cases t with
  | spW h hc =>
    refine head B X off R T hz hd (rs := [stmtAt rtLoop 3]) H h rfl fun h1 k1 tn H1 => disp_sp X H1 fun k2 => ?_
    rcases hc with rfl | rfl | rfl <;> exact sp_char (c := _) B X off R T hz hd H1 (cw := true) (cc := false) (cd := false) (cq := false) (by decide +kernel) (by decide +kernel) (by decide +kernel) (wv px _ (by decide +kernel)) (by decide +kernel) (by decide +kernel) (b := 0) (r := []) z0 (fun h' k _ H' => hq h' k [] rfl H') (fun _ _ e => nomatch e) (fun _ _ e => nomatch e) (fun _ _ e => nomatch e) (fun _ _ e => nomatch e)
  | spC h hb hr =>
    refine head B X off R T hz hd (rs := [stmtAt rtLoop 3]) H h rfl fun h1 k1 tn H1 => disp_sp X H1 fun k2 => ?_
    exact sp_char (c := 35) B X off R T hz hd H1 (cw := false) (cc := true) (cd := false) (cq := false) (by decide +kernel) (by decide +kernel) (by decide +kernel) (wv px _ (by decide +kernel)) (by decide +kernel) (by decide +kernel) (fun _ => ⟨h.tail, hb, hr⟩) (fun _ _ e => nomatch e) (fun h' k _ _ H' => hq h' k [] rfl H') (fun _ _ _ e => nomatch e) (fun _ _ _ e => nomatch e) (fun _ _ _ e => nomatch e)
  | spD h =>
    refine head B X off R T hz hd (rs := [stmtAt rtLoop 3]) H h rfl fun h1 k1 tn H1 => disp_sp X H1 fun k2 => ?_
    exact sp_char (c := 97) B X off R T hz hd H1 (cw := false) (cc := false) (cd := true) (cq := false) (by decide +kernel) (by decide +kernel) (by decide +kernel) (wv px _ (by decide +kernel)) (by decide +kernel) (by decide +kernel) (b := 0) (r := []) z0 (fun _ _ e => nomatch e) (fun _ _ _ e => nomatch e) (fun h' k _ _ _ H' => hq h' k [] rfl H') (fun _ _ _ _ e => nomatch e) (fun _ _ _ _ e => nomatch e)
  | spQ h hc =>
    refine head B X off R T hz hd (rs := [stmtAt rtLoop 3]) H h rfl fun h1 k1 tn H1 => disp_sp X H1 fun k2 => ?_
    rcases hc with rfl | rfl <;> exact sp_char (c := _) B X off R T hz hd H1 (cw := false) (cc := false) (cd := false) (cq := true) (by decide +kernel) (by decide +kernel) (by decide +kernel) (wv px _ (by decide +kernel)) (by decide +kernel) (by decide +kernel) (b := 0) (r := []) z0 (fun _ _ e => nomatch e) (fun _ _ _ e => nomatch e) (fun _ _ _ _ e => nomatch e) (fun h' k _ _ _ _ H' => hq h' k [] rfl H') (fun _ _ _ _ _ e => nomatch e)
  | spO h hc =>
    refine head B X off R T hz hd (rs := [stmtAt rtLoop 3]) H h rfl fun h1 k1 tn H1 => disp_sp X H1 fun k2 => ?_
    rcases hc with rfl | rfl <;> exact sp_char (c := _) B X off R T hz hd H1 (cw := false) (cc := false) (cd := false) (cq := false) (by decide +kernel) (by decide +kernel) (by decide +kernel) (wv px _ (by decide +kernel)) (by decide +kernel) (by decide +kernel) (b := 0) (r := []) z0 (fun _ _ e => nomatch e) (fun _ _ _ e => nomatch e) (fun _ _ _ _ e => nomatch e) (fun _ _ _ _ _ e => nomatch e) (fun h' k _ _ _ _ H' => hq h' k [] rfl H')
  | spE h =>
    refine head B X off R T hz hd (rs := [stmtAt rtLoop 3]) H h rfl fun h1 k1 tn H1 => disp_sp X H1 fun k2 => ?_
    exact sp_end X off R H1 (fun h' k H' => hq h' k [] rfl H')
  | wdW h hc ht hz' =>
    refine head B X off R T hz hd (rs := [stmtAt rtLoop 3]) H h rfl fun h1 k1 tn H1 => disp_wd X H1 fun h2 k2 H2 => ?_
    rcases hc with rfl | rfl | rfl <;> exact wd_char (c := _) B X off R T hz hd H2 (zt hz') (nz_int ht) (cw := true) (cc := false) (by decide +kernel) (by decide +kernel) (by decide +kernel) (wv px _ (by decide +kernel)) (by decide +kernel) (by decide +kernel) (b := 0) (r := []) z0 (fun h' k _ H' => hq h' k [] rfl H') (fun _ _ e => nomatch e) (fun _ _ e => nomatch e) (fun _ _ e => nomatch e)
  | wdCp hp h hb hr ht hz' =>
    refine head B X off R T hz hd (rs := [stmtAt rtLoop 3]) H h rfl fun h1 k1 tn H1 => disp_wd X H1 fun h2 k2 H2 => ?_
    exact wd_char (c := 35) B X off R T hz hd H2 (zt hz') (nz_int ht) (cw := false) (cc := true) (by decide +kernel) (by decide +kernel) (by decide +kernel) (wv px _ (by decide +kernel)) (by decide +kernel) (by decide +kernel) (fun _ => ⟨h.tail, hb, hr⟩) (fun _ _ e => nomatch e) (fun h' k _ _ _ H' => hq h' k [] rfl H') (fun _ _ _ _ e => nomatch hp.symm.trans e) (fun _ _ _ e => nomatch e)
  | wdCn hp h hb hr ht hz' =>
    refine head B X off R T hz hd (rs := [stmtAt rtLoop 3]) H h rfl fun h1 k1 tn H1 => disp_wd X H1 fun h2 k2 H2 => ?_
    exact wd_char (c := 35) B X off R T hz hd H2 (zt hz') (nz_int ht) (cw := false) (cc := true) (by decide +kernel) (by decide +kernel) (by decide +kernel) (wv px _ (by decide +kernel)) (by decide +kernel) (by decide +kernel) (fun _ => ⟨h.tail, hb, hr⟩) (fun _ _ e => nomatch e) (fun _ _ _ _ e => nomatch hp.symm.trans e) (fun h' k _ _ _ H' => hq h' k [] rfl H') (fun _ _ _ e => nomatch e)
  | wdO h ht hz' =>
    refine head B X off R T hz hd (rs := [stmtAt rtLoop 3]) H h rfl fun h1 k1 tn H1 => disp_wd X H1 fun h2 k2 H2 => ?_
    exact wd_char (c := 40) B X off R T hz hd H2 (zt hz') (nz_int ht) (cw := false) (cc := false) (by decide +kernel) (by decide +kernel) (by decide +kernel) (wv px _ (by decide +kernel)) (by decide +kernel) (by decide +kernel) (b := 0) (r := []) z0 (fun _ _ e => nomatch e) (fun _ _ _ e => nomatch e) (fun _ _ _ e => nomatch e) (fun h' k _ _ H' => hq h' k _ ⟨tn, rfl⟩ H')
  | wdE h =>
    refine head B X off R T hz hd (rs := [stmtAt rtLoop 3]) H h rfl fun h1 k1 tn H1 => disp_wd X H1 fun h2 k2 H2 => ?_
    exact wd_end X off R H2 (fun h' k H' => hq h' k [] rfl H')
  | qtW hp h hc hz' =>
    refine head B X off R T hz hd (rs := [stmtAt rtLoop 3]) H h rfl fun h1 k1 tn H1 => ?_
    rcases hc with rfl | rfl <;> exact disp_qt X (by decide +kernel) (by decide +kernel) H1 fun k2 => qt_char (c := _) X off R H1 (zt hz') (ce := true) (by decide +kernel) (by decide +kernel) (fun h' k _ _ H' => hq h' k [] rfl H') (fun _ _ _ e => nomatch hp.symm.trans e) (fun _ _ e => nomatch e)
  | qtB hp h hc hz' =>
    refine head B X off R T hz hd (rs := [stmtAt rtLoop 3]) H h rfl fun h1 k1 tn H1 => ?_
    rcases hc with rfl | rfl <;> exact disp_qt X (by decide +kernel) (by decide +kernel) H1 fun k2 => qt_char (c := _) X off R H1 (zt hz') (ce := true) (by decide +kernel) (by decide +kernel) (fun _ _ _ e => nomatch hp.symm.trans e) (fun h' k _ _ H' => hq h' k [] rfl H') (fun _ _ e => nomatch e)
  | qtN h hc hk hz' =>
    refine head B X off R T hz hd (rs := [stmtAt rtLoop 3]) H h rfl fun h1 k1 tn H1 => ?_
    rcases hc with rfl | rfl <;> rcases hk with rfl | rfl | rfl <;> exact disp_qt X (by decide +kernel) (by decide +kernel) H1 fun k2 => qt_char (c := _) X off R H1 (zt hz') (ce := false) (by decide +kernel) (by decide +kernel) (fun _ _ e => nomatch e) (fun _ _ e => nomatch e) (fun h' k _ H' => hq h' k [] rfl H')
  | eo h =>
    refine head B X off R T hz hd (rs := [stmtAt rtLoop 3]) H h rfl fun h1 k1 tn H1 => ?_
    exact if_true (t := c0.1) (b := c0.2.1) (e := c0.2.2) (t0 X H1 rfl fun k2 => ⟨rfl, eof_end X off R H1 (fun h' k H' => hq h' k [] rfl H')⟩)
end
/-- the turns from the first one to the break: k more turns -/
inductive Run (px : Bool) (x : Str) : Nat → Nat → LS → List Nat → Bool → Nat → LS → List Nat → Bool → Option Nat → Prop
  | stop {n st tk qd n' st' tk' qd' pb} (t : Turn px x n st tk qd .brk n' st' tk' qd' pb) : Run px x 0 n st tk qd n' st' tk' qd' pb
  | more {k n st tk qd f n' st' tk' qd' n'' st'' tk'' qd'' pb} (t : Turn px x n st tk qd f n' st' tk' qd' none) (hf : f = .next ∨ f = .cont) (r : Run px x k n' st' tk' qd' n'' st'' tk'' qd'' pb) : Run px x (k + 1) n st tk qd n'' st'' tk'' qd'' pb
noncomputable def rtTest : Stmt → Expr
  | .While t _ _ _ => t
  | _ => default
section
variable {prog : Program} {w : World} {p : Program} {loose : List Str} {mean : ExcName → Option Value} {mg mb : Str → Option Value} {dp un : Nat} {gd : Option (List Code)} {L : Addr} {outer : List Env} {A₀ : Around} {base h₀ : Heap} {sh : Heap} {sg : Array GenState} {sd : Drawn} {sk : Nat} {so : OsState} {E : Value → Shared → Prop} {rest : List (Addr × Obj)}
  {px qd qd' : Bool} {x : Str} {k n n' : Nat} {tk tk' : List Nat} {la lda ia ida pa fa : Addr} {D K : Nat → Tok} {st st' : LS} {pb : Option Nat}
theorem loop (B : Below A₀ base outer h₀) (X : (frag w.params).In h₀) (off : OwnOff rest [ia, ida, la, lda, pa, fa]) (R : Ord6 lda la ida ia pa fa) (T : Top p loose mean mg mb h₀) (hz : x.length ≤ 100000) (hd : dp + 5 < recursionLimit)
    {Q : Flow → Shared → Prop} (H : St w.params h₀ L la lda ia ida pa fa D K px x rest n st tk qd [] [] sh) (r : Run px x k n st tk qd n' st' tk' qd' pb)
    (hq : ∀ h' k pvs, PbV pb pvs → St w.params h₀ L la lda ia ida pa fa D K px x rest n' st' tk' qd' pvs [] h' → Q .next ⟨h', sg, sd, k, so⟩) (hE : PassesOwn (model prog w) (rtA dp un gd L outer) (rtE L) E := by passes_own) :
    wpAny (model prog w) (rtA dp un gd L outer) (exec (stmtAt ast_shlex_read_token.1.2.1 2) (rtE L)) Q E ⟨sh, sg, sd, sk, so⟩ := by
  obtain ⟨u, te, ts, tl, tt, tp, ln, pst, F, N⟩ := H
  show wpAny _ _ (exec (.While _ rtLoop [] _) _) _ _ _
  refine While_inv2 (n₀ := k) (fun j m news => ∃ n st tk qd te ts tl tt tp ln pst, Run px x j n st tk qd n' st' tk' qd' pb ∧ m (Str.ofString "self") = some (.ref la) ∧ m (Str.ofString "quoted") = some (.bool qd) ∧ m (Str.ofString "escapedstate") = some (.str (Str.ofString " ") te) ∧
    news = ((ia, instObj 587 ida) :: (ida, sioO w.params D x (n : Int) tp) :: (la, instObj 722 lda) :: (lda, lexO w.params K px ia pa fa (st.val ts) ln tl (S tk) tt) :: (pa, dequeO pst []) :: (fa, dequeO 0 []) :: rest)) F N ⟨n, st, tk, qd, te, ts, tl, tt, tp, ln, pst, r, rfl, rfl, rfl, rfl⟩ ?_ hE
  rintro j m news h tk0 F N ⟨n, st, tk, qd, te, ts, tl, tt, tp, ln, pst, r, h1, h2, h3, rfl⟩
  have H : St w.params h₀ L la lda ia ida pa fa D K px x rest n st tk qd [] [] h := St.of F N h1 h2 h3 rfl rfl rfl
  have ht : ∀ {Q : Bool → Shared → Prop}, (∀ k, Q true ⟨h, sg, sd, k, so⟩) → wpAny (model prog w) (rtA dp un gd L outer) (isTrue (rtTest (stmtAt ast_shlex_read_token.1.2.1 2)) (rtE L) (eval (rtTest (stmtAt ast_shlex_read_token.1.2.1 2)) (rtE L))) Q E ⟨h, sg, sd, tk0, so⟩ := by
    intro Q hq
    show wpAny _ _ (isTrue (.Constant _ _ _) _ (eval (.Constant _ _ _) _)) _ _ _
    k_steps
    exact hq _
  refine ht fun k1 => ?_
  rw [if_pos rfl]
  cases r with
  | stop t => exact turn B X off R T hz hd H t fun h' k pvs hp H' => hq h' k pvs hp H'
  | more t hf r =>
    refine turn B X off R T hz hd H t fun h' k pvs hp H' => ?_
    cases (hp : pvs = [])
    obtain ⟨u', te', ts', tl', tt', tp', ln', pst', F', N'⟩ := H'
    rcases hf with rfl | rfl <;> exact ⟨h', k, _, _, _, rfl, F', N', Nat.lt_succ_self _, _, _, _, _, te', ts', tl', tt', tp', ln', pst', r, rfl, rfl, rfl, rfl⟩
end
local macro_rules | `(tactic| walk_at "exec While") => `(tactic| (k_dflt (refine' loop ?B ?X ?off ?R ?T ?hz ?hd ?H ?r ?_; (case B => k_asm); (case X => k_asm); (case off => assumption); (case R => assumption); (case T => k_asm); (case hd => ktr_room); (case H => (refine' St.of ?F ?N ?a ?b ?c ?d ?e ?f; (case F => k_asm); (case N => k_asm); (case a => exact rfl); (case b => exact rfl); (case c => exact rfl); (case d => exact rfl); (case e => exact rfl); (case f => exact rfl))); (case r => assumption); (case hz => assumption)); intro h1 k1 pvs1 hp1 H1; obtain ⟨u1, te1, ts1, tl1, tt1, tp1, ln1, pst1, F1, N1⟩ := H1; (try k_sweep)))
def LX (P : Params) (h₀ : Heap) (L la lda ia ida pa fa : Addr) (D K : Nat → Tok) (px : Bool) (x : Str) (rest : List (Addr × Obj)) (n : Nat) (st : LS) (pb : Option Nat) (h : Heap) : Prop :=
  ∃ ts tl tt tp ln pst pvs, PbV pb pvs ∧ News h₀ L h ((ia, instObj 587 ida) :: (ida, sioO P D x (n : Int) tp) :: (la, instObj 722 lda) :: (lda, lexO P K px ia pa fa (st.val ts) ln tl (S []) tt) :: (pa, dequeO pst pvs) :: (fa, dequeO 0 []) :: rest)
def tokOut (px qd : Bool) (tk : List Nat) : Option (List Nat) := if px && !qd && tk.isEmpty then none else some tk
def TokV : Option (List Nat) → Value → Prop
  | none, v => v = .none
  | some l, v => ∃ t, v = .str (S l) t
section
variable {prog : Program} {w : World} {p : Program} {loose : List Str} {mean : ExcName → Option Value} {mg mb : Str → Option Value} {dp un : Nat} {gd : Option (List Code)} {cn : Str} {cs : Scope} {a : Addr} {ccd : Value} {cl : List (Str × Addr)} {L : Addr} {outer : List Env} {A₀ : Around} {base h₀ : Heap} {m : Str → Option Value} {sh : Heap} {sg : Array GenState} {sd : Drawn} {sk : Nat} {so : OsState} {E : Value → Shared → Prop} {rest : List (Addr × Obj)}
  {px qd' : Bool} {x : Str} {k n n' : Nat} {tk' : List Nat} {la lda ia ida pa fa : Addr} {D K : Nat → Tok} {st st' : LS} {pb : Option Nat}
theorem read_token (B : Below A₀ base outer h₀) (F : Fr h₀ L sh m) (X : (frag w.params).In h₀) (off : OwnOff rest [ia, ida, la, lda, pa, fa]) (R : Ord6 lda la ida ia pa fa) (T : Top p loose mean mg mb h₀) (hk : cs.kind = .function) (hz : x.length ≤ 100000) (hd : dp + 6 < recursionLimit)
    {Q : Value → Shared → Prop} (H : LX w.params h₀ L la lda ia ida pa fa D K px x rest n st none sh) (r : Run px x k n st [] false n' st' tk' qd' pb) (htz : tk'.length ≤ 100)
    (hret : ∀ h' k v, Fr h₀ L h' m → LX w.params h₀ L la lda ia ida pa fa D K px x rest n' st' pb h' → TokV (tokOut px qd' tk') v → Q v ⟨h', sg, sd, k, so⟩) :
    wpAny (model prog w) (ktrTop dp un gd cn cs L a ccd cl outer) (call (.ref 690) [.ref la]) Q E ⟨sh, sg, sd, sk, so⟩ := by
  obtain ⟨ts, tl, tt, tp, ln, pst, pvs, hp, N⟩ := H
  cases (hp : pvs = [])
  have hts : (S tk').length ≤ 100000 := by rw [S_len]; omega
  have hs : Str.ofString "" = S [] := by decide +kernel
  have he : (S tk' == Str.ofString "") = tk'.isEmpty := by
    rw [hs]; cases tk' <;> rfl
  refine wpAny_call ?_
  k_dflt ktr_enter
  k_steps
  all_goals
    rename News _ _ _ _ => NN
    rw [hs] at NN
    refine hret _ _ _ (by assumption) ⟨_, _, _, _, _, _, _, by assumption, NN⟩ ?_
    clear hret
    cases px <;> cases qd' <;> cases tk' <;> first | exact rfl | exact ⟨_, rfl⟩ | contradiction | (rename List.isEmpty _ = _ => hh; exact absurd hh (by simp))
end
def isEnd (px : Bool) (o : Option (List Nat)) : Bool := match px, o with
  | true, none => true
  | false, some [] => true
  | _, _ => false
theorem TokV.handed {o : Option (List Nat)} {v : Value} (h : TokV o v) : handedIn v = true := by
  cases o with
  | none => cases (id h : v = .none); rfl
  | some l => obtain ⟨t, rfl⟩ := h; rfl
def TokE (px : Bool) (o : Option (List Nat)) (v : Value) : Prop := match isEnd px o with
  | true => ∃ t, v = eofV px t
  | false => TokV o v
/-- one token: the reader's state before, what it gives (none: the end), the state behind -/
inductive GTok (px : Bool) (x : Str) : Nat × LS × Option Nat → Option (List Nat) → Nat × LS × Option Nat → Prop
  | back {n st c} : GTok px x (n, st, some c) (some [c]) (n, st, none)
  | new {k n st n' st' tk' qd' pb} (r : Run px x k n st [] false n' st' tk' qd' pb) (htz : tk'.length ≤ 100) (he : isEnd px (tokOut px qd' tk') = false) : GTok px x (n, st, none) (some tk') (n', st', pb)
  | out {k n st n' st' tk' qd' pb} (r : Run px x k n st [] false n' st' tk' qd' pb) (htz : tk'.length ≤ 100) (he : isEnd px (tokOut px qd' tk') = true) : GTok px x (n, st, none) none (n', st', pb)
def TokG (px : Bool) : Option (List Nat) → Value → Prop
  | none, v => ∃ t, v = eofV px t
  | some l, v => isEnd px (some l) = false ∧ ∃ t, v = .str (S l) t
theorem eq_eof {prog : Program} {w : World} {A : Around} {E : Value → Shared → Prop} {s : Shared} {v : Value} {o : Option (List Nat)} {px b : Bool} {t : Tok} {Q : Value → Shared → Prop} (hv : TokV o v) (hn : px = false → o ≠ none) (hb : isEnd px o = b)
    (h : Q (.bool b) s) : wpAny (model prog w) A (compareOp .Eq v (eofV px t)) Q E s := by
  obtain ⟨⟩ := s
  subst hb
  cases px with
  | true =>
    cases o with
    | none => cases (id hv : v = .none); exact EqNone.eq_none_none h
    | some l => obtain ⟨u, rfl⟩ := hv; exact EqNone.eq_str_none h
  | false =>
    cases o with
    | none => exact absurd rfl (hn rfl)
    | some l =>
      obtain ⟨u, rfl⟩ := hv
      refine eq_lit (b := isEnd false (some l)) ?_ h
      rw [show Str.ofString "" = S [] from by decide +kernel]
      cases l <;> rfl
local macro_rules | `(tactic| walk_at "call ref") => `(tactic| ((with_reducible show wpAny _ _ (call (Value.ref 690) _) _ _ _); k_dflt 
  (refine' read_token ?B ?F ?X ?off ?R ?T ?hk ?hz ?hd ?H ?r ?htz ?_; (case B => k_asm); (case F => k_asm); (case X => k_asm); (case off => assumption); (case R => assumption); (case T => k_asm); (case hk => exact rfl); (case hd => ktr_room); (case H => exact ⟨_, _, _, _, _, _, _, (by exact rfl), by k_asm⟩); (case r => assumption); (case htz => assumption); (case hz => assumption); intro h1 k1 v1 F1 H1 hv1; obtain ⟨ts1, tl1, tt1, tp1, ln1, pst1, pvs1, hp1, N1⟩ := H1; (have hh1 := TokV.handed hv1); (try k_sweep))))
section
variable {prog : Program} {w : World} {p : Program} {loose : List Str} {mean : ExcName → Option Value} {mg mb : Str → Option Value} {dp un : Nat} {gd : Option (List Code)} {cn : Str} {cs : Scope} {a : Addr} {ccd : Value} {cl : List (Str × Addr)} {L : Addr} {outer : List Env} {A₀ : Around} {base h₀ : Heap} {m : Str → Option Value} {sh : Heap} {sg : Array GenState} {sd : Drawn} {sk : Nat} {so : OsState} {E : Value → Shared → Prop} {rest : List (Addr × Obj)}
  {px qd' : Bool} {x : Str} {k n n' c : Nat} {tk' : List Nat} {la lda ia ida pa fa : Addr} {D K : Nat → Tok} {st st' : LS} {pb : Option Nat}
/-- a token that was put back -/
theorem get_back (B : Below A₀ base outer h₀) (F : Fr h₀ L sh m) (X : (frag w.params).In h₀) (off : OwnOff rest [ia, ida, la, lda, pa, fa]) (R : Ord6 lda la ida ia pa fa) (T : Top p loose mean mg mb h₀) (hk : cs.kind = .function) (hd : dp + 6 < recursionLimit)
    {Q : Value → Shared → Prop} (H : LX w.params h₀ L la lda ia ida pa fa D K px x rest n st (some c) sh)
    (hret : ∀ h' k v, Fr h₀ L h' m → LX w.params h₀ L la lda ia ida pa fa D K px x rest n st none h' → TokV (some [c]) v → Q v ⟨h', sg, sd, k, so⟩) :
    wpAny (model prog w) (ktrTop dp un gd cn cs L a ccd cl outer) (call (.ref 683) [.ref la]) Q E ⟨sh, sg, sd, sk, so⟩ := by
  obtain ⟨ts, tl, tt, tp, ln, pst, pvs, ⟨tc, rfl⟩, N⟩ := H
  refine wpAny_call ?_
  k_dflt ktr_enter
  k_steps
  exact hret _ _ _ (by assumption) ⟨_, _, _, _, _, _, _, rfl, by assumption⟩ ⟨_, rfl⟩
theorem get_new (B : Below A₀ base outer h₀) (F : Fr h₀ L sh m) (X : (frag w.params).In h₀) (off : OwnOff rest [ia, ida, la, lda, pa, fa]) (R : Ord6 lda la ida ia pa fa) (T : Top p loose mean mg mb h₀) (hk : cs.kind = .function) (hz : x.length ≤ 100000) (hd : dp + 7 < recursionLimit)
    {Q : Value → Shared → Prop} (H : LX w.params h₀ L la lda ia ida pa fa D K px x rest n st none sh) (r : Run px x k n st [] false n' st' tk' qd' pb) (htz : tk'.length ≤ 100)
    (hret : ∀ h' k v, Fr h₀ L h' m → LX w.params h₀ L la lda ia ida pa fa D K px x rest n' st' pb h' → TokE px (tokOut px qd' tk') v → Q v ⟨h', sg, sd, k, so⟩) :
    wpAny (model prog w) (ktrTop dp un gd cn cs L a ccd cl outer) (call (.ref 683) [.ref la]) Q E ⟨sh, sg, sd, sk, so⟩ := by
  obtain ⟨ts, tl, tt, tp, ln, pst, pvs, hp, N⟩ := H
  cases (hp : pvs = [])
  have hs : Str.ofString "" = S [] := by decide +kernel
  have hh : handedIn (st'.val 0) = true := by cases st' <;> rfl
  have hE : handedIn (eofV px (K 23)) = true := by cases px <;> rfl
  have ht : px = false → tokOut px qd' tk' ≠ none := by rintro rfl e; cases e
  generalize ho : tokOut px qd' tk' = o at hret ht
  generalize he : isEnd px o = b
  refine wpAny_call ?_
  k_dflt ktr_enter
  k_steps
  rename TokV _ _ => hv1
  rw [ho] at hv1
  refine eq_eof hv1 ht he ?_
  cases b
  all_goals k_steps
  · exact hret _ _ _ (by assumption) ⟨_, _, _, _, _, _, _, by assumption, by assumption⟩ (by unfold TokE; rw [he]; exact hv1)
  · exact hret _ _ _ (by assumption) ⟨_, _, _, _, _, _, _, by assumption, by assumption⟩ (by unfold TokE; rw [he]; exact ⟨_, rfl⟩)
theorem get_token {s1 s2 : Nat × LS × Option Nat} {o : Option (List Nat)} (B : Below A₀ base outer h₀) (F : Fr h₀ L sh m) (X : (frag w.params).In h₀) (off : OwnOff rest [ia, ida, la, lda, pa, fa]) (R : Ord6 lda la ida ia pa fa) (T : Top p loose mean mg mb h₀) (hk : cs.kind = .function) (hz : x.length ≤ 100000) (hd : dp + 7 < recursionLimit)
    {Q : Value → Shared → Prop} (H : LX w.params h₀ L la lda ia ida pa fa D K px x rest s1.1 s1.2.1 s1.2.2 sh) (g : GTok px x s1 o s2)
    (hret : ∀ h' k v, Fr h₀ L h' m → LX w.params h₀ L la lda ia ida pa fa D K px x rest s2.1 s2.2.1 s2.2.2 h' → TokG px o v → Q v ⟨h', sg, sd, k, so⟩) :
    wpAny (model prog w) (ktrTop dp un gd cn cs L a ccd cl outer) (call (.ref 683) [.ref la]) Q E ⟨sh, sg, sd, sk, so⟩ := by
  cases g with
  | back =>
    refine get_back B F X off R T hk (by omega) H fun h' k v F' H' hv => hret h' k v F' H' ?_
    refine ⟨?_, hv⟩
    cases px <;> rfl
  | @new k n st n' st' tk' qd' pb r htz he =>
    refine get_new B F X off R T hk hz hd H r htz fun h' k v F' H' hv => hret h' k v F' H' ?_
    unfold TokE at hv
    rw [he] at hv
    have ht : tokOut px qd' tk' = some tk' := by
      unfold tokOut at he ⊢
      split
      · rename_i e
        rw [if_pos e] at he
        cases px
        · cases e
        · cases he
      · rfl
    rw [ht] at hv he
    exact ⟨he, hv⟩
  | @out k n st n' st' tk' qd' pb r htz he =>
    refine get_new B F X off R T hk hz hd H r htz fun h' k v F' H' hv => hret h' k v F' H' ?_
    unfold TokE at hv
    rw [he] at hv
    exact hv
end
section
theorem TokG.handed {px : Bool} {o : Option (List Nat)} {v : Value} (h : TokG px o v) : handedIn v = true := by
  cases o with
  | none => obtain ⟨t, rfl⟩ := h; cases px <;> rfl
  | some l => obtain ⟨_, t, rfl⟩ := h; rfl
theorem eq_eofG {prog : Program} {w : World} {A : Around} {E : Value → Shared → Prop} {s : Shared} {v : Value} {o : Option (List Nat)} {px b : Bool} {t : Tok} {Q : Value → Shared → Prop} (hv : TokG px o v) (hb : o.isNone = b)
    (h : Q (.bool b) s) : wpAny (model prog w) A (compareOp .Eq v (eofV px t)) Q E s := by
  cases o with
  | none =>
    obtain ⟨u, rfl⟩ := hv
    subst hb
    cases px
    · exact eq_eof (o := some []) ⟨u, by rw [show S [] = Str.ofString "" from by decide +kernel]; rfl⟩ (fun _ e => nomatch e) rfl h
    · exact eq_eof (o := none) (rfl : Value.none = .none) (fun e => nomatch e) rfl h
  | some l =>
    subst hb
    exact eq_eof (o := some l) hv.2 (fun _ e => nomatch e) hv.1 h
local macro_rules | `(tactic| walk_at "call ref") => `(tactic| ((with_reducible show wpAny _ _ (call (Value.ref 683) _) _ _ _); k_dflt 
  (refine' get_token ?B ?F ?X ?off ?R ?T ?hk ?hz ?hd ?H ?g ?_; (case B => k_asm); (case F => k_asm); (case X => k_asm); (case off => assumption); (case R => assumption); (case T => k_asm); (case hk => exact rfl); (case hd => ktr_room); (case g => assumption); (case H => exact ⟨_, _, _, _, _, _, _, (by assumption), by k_asm⟩); (case hz => assumption); intro h1 k1 v1 F1 H1 hv1; obtain ⟨ts1, tl1, tt1, tp1, ln1, pst1, pvs1, hp1, N1⟩ := H1; (have hh1 := TokG.handed hv1); (try k_sweep))))
def LXn (P : Params) (la lda ia ida pa fa : Addr) (D K : Nat → Tok) (px : Bool) (x : Str) (rest : List (Addr × Obj)) (s : Nat × LS × Option Nat) (news : List (Addr × Obj)) : Prop :=
  ∃ ts tl tt tp ln pst pvs, PbV s.2.2 pvs ∧ news = ((ia, instObj 587 ida) :: (ida, sioO P D x (s.1 : Int) tp) :: (la, instObj 722 lda) :: (lda, lexO P K px ia pa fa (s.2.1.val ts) ln tl (S []) tt) :: (pa, dequeO pst pvs) :: (fa, dequeO 0 []) :: rest)
theorem LXn.to {P : Params} {h₀ h : Heap} {L la lda ia ida pa fa : Addr} {D K : Nat → Tok} {px : Bool} {x : Str} {rest news : List (Addr × Obj)} {s : Nat × LS × Option Nat} (H : LXn P la lda ia ida pa fa D K px x rest s news) (N : News h₀ L h news) : LX P h₀ L la lda ia ida pa fa D K px x rest s.1 s.2.1 s.2.2 h := by
  obtain ⟨ts, tl, tt, tp, ln, pst, pvs, hp, rfl⟩ := H
  exact ⟨ts, tl, tt, tp, ln, pst, pvs, hp, N⟩
local macro_rules | `(tactic| walk_at "leaving ref") => `(tactic| (k_here; (refine' leave_raiseS ?k1 ?k0 ?k2 ?k3 ?_; (case k0 => first | assumption | exact Heap.MadeExc.of (by assumption)); (case k2 => assumption); (case k1 => assumption); (case k3 => k_asm); k_whole; intro h' t' S' R' U'; (try dsimp only at S' R' U' ⊢))))
section
variable {prog : Program} {w : World} {p : Program} {loose : List Str} {mean : ExcName → Option Value} {mg mb : Str → Option Value} {dp un : Nat} {gd : Option (List Code)} {cn : Str} {cs : Scope} {a : Addr} {ccd : Value} {cl : List (Str × Addr)} {L : Addr} {outer : List Env} {A₀ : Around} {base h₀ : Heap} {m : Str → Option Value} {sh : Heap} {sg : Array GenState} {sd : Drawn} {sk : Nat} {so : OsState} {E : Value → Shared → Prop} {rest : List (Addr × Obj)}
  {px : Bool} {x : Str} {la lda ia ida pa fa : Addr} {D K : Nat → Tok} {s1 s2 : Nat × LS × Option Nat} {l : List Nat}
theorem next_tok (B : Below A₀ base outer h₀) (F : Fr h₀ L sh m) (X : (frag w.params).In h₀) (off : OwnOff rest [ia, ida, la, lda, pa, fa]) (R : Ord6 lda la ida ia pa fa) (T : Top p loose mean mg mb h₀) (hk : cs.kind = .function) (hz : x.length ≤ 100000) (hd : dp + 8 < recursionLimit)
    {Q : Value → Shared → Prop} (H : LX w.params h₀ L la lda ia ida pa fa D K px x rest s1.1 s1.2.1 s1.2.2 sh) (g : GTok px x s1 (some l) s2)
    (hret : ∀ h' k v, Fr h₀ L h' m → LX w.params h₀ L la lda ia ida pa fa D K px x rest s2.1 s2.2.1 s2.2.2 h' → TokG px (some l) v → Q v ⟨h', sg, sd, k, so⟩) :
    wpAny (model prog w) (ktrTop dp un gd cn cs L a ccd cl outer) (call (.ref 719) [.ref la]) Q E ⟨sh, sg, sd, sk, so⟩ := by
  obtain ⟨ts, tl, tt, tp, ln, pst, pvs, hp, N⟩ := H
  have hE : handedIn (eofV px (K 23)) = true := by cases px <;> rfl
  refine wpAny_call ?_
  k_dflt ktr_enter
  k_steps
  refine eq_eofG (b := false) (by assumption) rfl ?_
  k_steps
  exact hret _ _ _ (by assumption) ⟨_, _, _, _, _, _, _, by assumption, by assumption⟩ (by assumption)
theorem next_end (B : Below A₀ base outer h₀) (F : Fr h₀ L sh m) (X : (frag w.params).In h₀) (off : OwnOff rest [ia, ida, la, lda, pa, fa]) (R : Ord6 lda la ida ia pa fa) (T : Top p loose mean mg mb h₀) (hk : cs.kind = .function) (hz : x.length ≤ 100000) (hd : dp + 8 < recursionLimit)
    {Q : Value → Shared → Prop} (H : LX w.params h₀ L la lda ia ida pa fa D K px x rest s1.1 s1.2.1 s1.2.2 sh) (g : GTok px x s1 none s2)
    (hstop : ∀ g h' e t k news, Fr h₀ L g m → LXn w.params la lda ia ida pa fa D K px x rest s2 news → RaisedS base g (envX cn cs L a ccd cl :: outer) e (.type "StopIteration") t [] news h' → g.UpToSlots h' → E (.ref e) ⟨h', sg, sd, k, so⟩) :
    wpAny (model prog w) (ktrTop dp un gd cn cs L a ccd cl outer) (call (.ref 719) [.ref la]) Q E ⟨sh, sg, sd, sk, so⟩ := by
  obtain ⟨ts, tl, tt, tp, ln, pst, pvs, hp, N⟩ := H
  have hE : handedIn (eofV px (K 23)) = true := by cases px <;> rfl
  refine wpAny_call ?_
  k_dflt ktr_enter
  k_steps
  refine eq_eofG (b := true) (by assumption) rfl ?_
  k_steps
  exact hstop _ _ _ _ _ _ (by assumption) ⟨_, _, _, _, _, _, _, by assumption, rfl⟩ (by assumption) (by assumption)
end
end
section
local macro_rules | `(tactic| walk_at "call ref") => `(tactic| ((with_reducible show wpAny _ _ (call (Value.ref 683) _) _ _ _); k_dflt 
  (refine' get_token ?B ?F ?X ?off ?R ?T ?hk ?hz ?hd ?H ?g ?_; (case B => k_asm); (case F => k_asm); (case X => k_asm); (case off => assumption); (case R => assumption); (case T => k_asm); (case hk => exact rfl); (case hd => ktr_room); (case g => assumption); (case H => exact ⟨_, _, _, _, _, _, _, (by assumption), by k_asm⟩); (case hz => assumption); intro h1 k1 v1 F1 H1 hv1; obtain ⟨ts1, tl1, tt1, tp1, ln1, pst1, pvs1, hp1, N1⟩ := H1; (have hh1 := TokG.handed hv1); (try k_sweep))))
open PySem.Builtin in
theorem plain_next : plainId "next" = true := by decide +kernel
theorem kind_next : builtinKind "next" = none := by decide +kernel
theorem entry_bnext : entryFor table "next" = some Builtin.«next» := entryFor_of_tree (by kernel_rfl)
theorem args_bnext (a : Value) : argsOk "next" ⟨[a], []⟩ := by unfold argsOk; kernel_rfl
theorem plain_biter : plainId "iter" = true := by decide +kernel
theorem kind_biter : builtinKind "iter" = none := by decide +kernel
theorem entry_biter : entryFor table "iter" = some Builtin.«iter» := entryFor_of_tree (by kernel_rfl)
theorem args_biter (a : Value) : argsOk "iter" ⟨[a], []⟩ := by unfold argsOk; kernel_rfl
theorem sub_stop : isSubtype (.type "StopIteration") (.type "StopIteration") = pure true := by rw [isSubtype_type]; kernel_rfl
section
variable {M : Model} {A A₀ : Around} {E : Value → Shared → Prop} {s : Shared} {base g G : Heap} {outer : List Env} {L a e t : Addr} {m : Str → Option Value} {name : Str} {scope : Scope} {cd : Value} {cl : List (Str × Addr)} {news : List (Addr × Obj)} {X : String} {vs : List Value}
theorem stopS {Q : Option Value → Shared → Prop} (R : RaisedS base G (envX name scope L a cd cl :: outer) e (.type X) t vs news s.heap) (F : Fr g L G m) (K : Below A₀ base outer g) (hsm : G.UpToSlots s.heap) (hsub : isSubtype (.type X) (.type "StopIteration") = pure true)
    (k : ∀ g', KtsTurn (outer.filterMap (·.frame)) g g' → Fr g' L s.heap m → Below A₀ base outer g' → News g' L s.heap news → Q none s) : OwitStop M A Q E (.ref e) s := by
  obtain ⟨⟨B, hB, hBG, hl, hfl, hnew⟩, htup⟩ := R
  have hL : B.get? L = none := by
    obtain ⟨_, ⟨L', _, hf, hn', _⟩, _⟩ := hfl.2.2.1
    obtain rfl : L = L' := Option.some.inj hf
    exact hn'
  obtain ⟨g', T', F', K'⟩ := kts_ground (name := name) (scope := scope) (a := a) (cd := cd) K F hBG hfl.1 hsm
  obtain ⟨ob, hob, hobc⟩ := hfl.there
  have hT : s.TypeIs (.ref e) X := (show ∃ o, s.heap.get? e = some o ∧ o.cls = .type X from ⟨ob, hob, hobc⟩)
  unfold OwitStop
  refine wpAny_isInstance hT hsub ?_
  show (if true = true then Q none s else E (.ref e) s)
  rw [if_pos rfl]
  exact k g' T' F' K' fun q hq => ⟨hfl.1 _ _ (hl q hq).1, (fun z => by have := (hl q hq).1; rw [z, hL] at this; cases this), T'.none_ _ (kts_none F.keep (hl q hq).2.1)⟩
end
section
variable {prog : Program} {w : World} {p : Program} {loose : List Str} {mean : ExcName → Option Value} {mg mb : Str → Option Value} {dp un : Nat} {gd : Option (List Code)} {cn : Str} {cs : Scope} {a : Addr} {ccd : Value} {cl : List (Str × Addr)} {L : Addr} {outer : List Env} {A₀ : Around} {base h₀ : Heap} {m : Str → Option Value} {sh : Heap} {sg : Array GenState} {sd : Drawn} {sk : Nat} {so : OsState} {E : Value → Shared → Prop} {rest : List (Addr × Obj)}
  {px : Bool} {x : Str} {la lda ia ida pa fa : Addr} {D K : Nat → Tok} {s1 s2 : Nat × LS × Option Nat} {l : List Nat}
theorem lex_inst {n : Nat} {st : LS} {pb : Option Nat} (H : LX w.params h₀ L la lda ia ida pa fa D K px x rest n st pb sh) : ∃ od, InstAt sh la (instObj 722 lda) 722 (some od) := by
  obtain ⟨ts, tl, tt, tp, ln, pst, pvs, hp, N⟩ := H
  refine ⟨lexO w.params K px ia pa fa (st.val ts) ln tl (S []) tt, InstAt.of_news N ?_ ?_⟩
  · k_mem
  · k_mem
theorem find_next : findIn (frag w.params) (.ref 722) "__next__" = some (some (.ref 719)) := by k_is
theorem find_iter : findIn (frag w.params) (.ref 722) "__iter__" = some (some (.ref 712)) := by k_is
theorem fn_next : isFn (frag w.params) (.ref 719) = true := by k_is
theorem fn_iter : isFn (frag w.params) (.ref 712) = true := by k_is
theorem pyNext_tok (B : Below A₀ base outer h₀) (F : Fr h₀ L sh m) (X : (frag w.params).In h₀) (off : OwnOff rest [ia, ida, la, lda, pa, fa]) (R : Ord6 lda la ida ia pa fa) (T : Top p loose mean mg mb h₀) (hk : cs.kind = .function) (hz : x.length ≤ 100000) (hd : dp + 8 < recursionLimit)
    {Q : Option Value → Shared → Prop} (H : LX w.params h₀ L la lda ia ida pa fa D K px x rest s1.1 s1.2.1 s1.2.2 sh) (g : GTok px x s1 (some l) s2)
    (hret : ∀ h' k v, Fr h₀ L h' m → LX w.params h₀ L la lda ia ida pa fa D K px x rest s2.1 s2.2.1 s2.2.2 h' → TokG px (some l) v → Q (some v) ⟨h', sg, sd, k, so⟩) :
    wpAny (model prog w) (ktrTop dp un gd cn cs L a ccd cl outer) (pyNext (.ref la)) Q E ⟨sh, sg, sd, sk, so⟩ := by
  obtain ⟨od, I⟩ := lex_inst H
  exact owit_next F X I find_next fn_next (next_tok B F X off R T hk hz hd H g hret)
theorem pyNext_end (B : Below A₀ base outer h₀) (F : Fr h₀ L sh m) (X : (frag w.params).In h₀) (off : OwnOff rest [ia, ida, la, lda, pa, fa]) (R : Ord6 lda la ida ia pa fa) (T : Top p loose mean mg mb h₀) (hk : cs.kind = .function) (hz : x.length ≤ 100000) (hd : dp + 8 < recursionLimit)
    {Q : Option Value → Shared → Prop} (H : LX w.params h₀ L la lda ia ida pa fa D K px x rest s1.1 s1.2.1 s1.2.2 sh) (g : GTok px x s1 none s2)
    (hret : ∀ g' h' k, KtsTurn (outer.filterMap (·.frame)) h₀ g' → Fr g' L h' m → Below A₀ base outer g' → LX w.params g' L la lda ia ida pa fa D K px x rest s2.1 s2.2.1 s2.2.2 h' → Q none ⟨h', sg, sd, k, so⟩) :
    wpAny (model prog w) (ktrTop dp un gd cn cs L a ccd cl outer) (pyNext (.ref la)) Q E ⟨sh, sg, sd, sk, so⟩ := by
  obtain ⟨od, I⟩ := lex_inst H
  refine owit_next F X I find_next fn_next (next_end B F X off R T hk hz hd H g fun g₁ h' e t k news F₁ hn hR hU => ?_)
  exact stopS hR F₁ B hU sub_stop fun g' T' F' B' N' => hret g' h' k T' F' B' (hn.to N')
theorem bnext_tok (B : Below A₀ base outer h₀) (F : Fr h₀ L sh m) (X : (frag w.params).In h₀) (off : OwnOff rest [ia, ida, la, lda, pa, fa]) (R : Ord6 lda la ida ia pa fa) (T : Top p loose mean mg mb h₀) (hk : cs.kind = .function) (hz : x.length ≤ 100000) (hd : dp + 8 < recursionLimit)
    {Q : Value → Shared → Prop} (H : LX w.params h₀ L la lda ia ida pa fa D K px x rest s1.1 s1.2.1 s1.2.2 sh) (g : GTok px x s1 (some l) s2)
    (hret : ∀ h' k v, Fr h₀ L h' m → LX w.params h₀ L la lda ia ida pa fa D K px x rest s2.1 s2.2.1 s2.2.2 h' → TokG px (some l) v → Q v ⟨h', sg, sd, k, so⟩) :
    wpAny (model prog w) (ktrTop dp un gd cn cs L a ccd cl outer) (call (.builtin "next") [.ref la]) Q E ⟨sh, sg, sd, sk, so⟩ := by
  obtain ⟨od, I⟩ := lex_inst H
  refine call_function_entry kind_next plain_next entry_bnext (args_bnext _) ?_
  unfold Builtin.«next»
  refine wpAny_bind (m := someArgs "next" 1 2 _) (wpAny_pure ?_)
  refine wpAny_bind (wpAny_bind (I.type.here ((looks_findIn (X.keeps F.keep) find_next).here ?_)))
  refine wpAny_bind (special_fn (name := "__next__") (args := []) (X.keeps F.keep) I find_next (beq_iff_eq.mp fn_next) ?_)
  exact next_tok B F X off R T hk hz hd H g fun h' k v F' H' hv => wpAny_pure ⟨v, rfl, hret h' k v F' H' hv⟩
theorem bnext_end (B : Below A₀ base outer h₀) (F : Fr h₀ L sh m) (X : (frag w.params).In h₀) (off : OwnOff rest [ia, ida, la, lda, pa, fa]) (R : Ord6 lda la ida ia pa fa) (T : Top p loose mean mg mb h₀) (hk : cs.kind = .function) (hz : x.length ≤ 100000) (hd : dp + 8 < recursionLimit)
    {Q : Value → Shared → Prop} (H : LX w.params h₀ L la lda ia ida pa fa D K px x rest s1.1 s1.2.1 s1.2.2 sh) (g : GTok px x s1 none s2)
    (hstop : ∀ g h' e t k news, Fr h₀ L g m → LXn w.params la lda ia ida pa fa D K px x rest s2 news → RaisedS base g (envX cn cs L a ccd cl :: outer) e (.type "StopIteration") t [] news h' → g.UpToSlots h' → E (.ref e) ⟨h', sg, sd, k, so⟩) :
    wpAny (model prog w) (ktrTop dp un gd cn cs L a ccd cl outer) (call (.builtin "next") [.ref la]) Q E ⟨sh, sg, sd, sk, so⟩ := by
  obtain ⟨od, I⟩ := lex_inst H
  refine call_function_entry kind_next plain_next entry_bnext (args_bnext _) ?_
  unfold Builtin.«next»
  refine wpAny_bind (m := someArgs "next" 1 2 _) (wpAny_pure ?_)
  refine wpAny_bind (wpAny_bind (I.type.here ((looks_findIn (X.keeps F.keep) find_next).here ?_)))
  refine wpAny_bind (special_fn (name := "__next__") (args := []) (X.keeps F.keep) I find_next (beq_iff_eq.mp fn_next) ?_)
  exact next_end B F X off R T hk hz hd H g hstop
theorem lex_iter (B : Below A₀ base outer h₀) (F : Fr h₀ L sh m) (X : (frag w.params).In h₀) (T : Top p loose mean mg mb h₀) (hk : cs.kind = .function) (hd : dp + 8 < recursionLimit)
    {Q : Value → Shared → Prop} (H : LX w.params h₀ L la lda ia ida pa fa D K px x rest s1.1 s1.2.1 s1.2.2 sh)
    (hret : ∀ h' k, Fr h₀ L h' m → LX w.params h₀ L la lda ia ida pa fa D K px x rest s1.1 s1.2.1 s1.2.2 h' → Q (.ref la) ⟨h', sg, sd, k, so⟩) :
    wpAny (model prog w) (ktrTop dp un gd cn cs L a ccd cl outer) (call (.ref 712) [.ref la]) Q E ⟨sh, sg, sd, sk, so⟩ := by
  obtain ⟨ts, tl, tt, tp, ln, pst, pvs, hp, N⟩ := H
  refine wpAny_call ?_
  k_dflt ktr_enter
  k_steps
  exact hret _ _ (by assumption) ⟨_, _, _, _, _, _, _, hp, by assumption⟩
theorem pyIter_lex (B : Below A₀ base outer h₀) (F : Fr h₀ L sh m) (X : (frag w.params).In h₀) (T : Top p loose mean mg mb h₀) (hk : cs.kind = .function) (hd : dp + 8 < recursionLimit)
    {Q : Value → Shared → Prop} (H : LX w.params h₀ L la lda ia ida pa fa D K px x rest s1.1 s1.2.1 s1.2.2 sh)
    (hret : ∀ h' k, Fr h₀ L h' m → LX w.params h₀ L la lda ia ida pa fa D K px x rest s1.1 s1.2.1 s1.2.2 h' → Q (.ref la) ⟨h', sg, sd, k, so⟩) :
    wpAny (model prog w) (ktrTop dp un gd cn cs L a ccd cl outer) (pyIter (.ref la)) Q E ⟨sh, sg, sd, sk, so⟩ := by
  obtain ⟨od, I⟩ := lex_inst H
  refine owit_iter F X I find_iter fn_iter (lex_iter B F X T hk hd H fun h' k F' H' => ?_)
  obtain ⟨od', I'⟩ := lex_inst H'
  exact owit_it (s := ⟨h', sg, sd, k, so⟩) F' X I' find_next (hret h' k F' H')
theorem biter_lex (B : Below A₀ base outer h₀) (F : Fr h₀ L sh m) (X : (frag w.params).In h₀) (T : Top p loose mean mg mb h₀) (hk : cs.kind = .function) (hd : dp + 8 < recursionLimit)
    {Q : Value → Shared → Prop} (H : LX w.params h₀ L la lda ia ida pa fa D K px x rest s1.1 s1.2.1 s1.2.2 sh)
    (hret : ∀ h' k, Fr h₀ L h' m → LX w.params h₀ L la lda ia ida pa fa D K px x rest s1.1 s1.2.1 s1.2.2 h' → Q (.ref la) ⟨h', sg, sd, k, so⟩) :
    wpAny (model prog w) (ktrTop dp un gd cn cs L a ccd cl outer) (call (.builtin "iter") [.ref la]) Q E ⟨sh, sg, sd, sk, so⟩ := by
  refine call_function_entry kind_biter plain_biter entry_biter (args_biter _) ?_
  unfold Builtin.«iter»
  refine wpAny_bind (m := someArgs "iter" 1 2 _) (wpAny_pure ?_)
  refine wpAny_bind (pyIter_lex B F X T hk hd H fun h' k F' H' => ?_)
  exact wpAny_pure ⟨_, rfl, hret h' k F' H'⟩
end
end
section
local macro_rules | `(tactic| walk_at "call ref") => `(tactic| ((with_reducible show wpAny _ _ (call (Value.ref 683) _) _ _ _); k_dflt 
  (refine' get_token ?B ?F ?X ?off ?R ?T ?hk ?hz ?hd ?H ?g ?_; (case B => k_asm); (case F => k_asm); (case X => k_asm); (case off => assumption); (case R => assumption); (case T => k_asm); (case hk => exact rfl); (case hd => ktr_room); (case g => assumption); (case H => exact ⟨_, _, _, _, _, _, _, (by assumption), by k_asm⟩); (case hz => assumption); intro h1 k1 v1 F1 H1 hv1; obtain ⟨ts1, tl1, tt1, tp1, ln1, pst1, pvs1, hp1, N1⟩ := H1; (have hh1 := TokG.handed hv1); (try k_sweep))))
inductive GRow (px : Bool) (x : Str) : Nat × LS × Option Nat → List (List Nat) → Nat × LS × Option Nat → Prop
  | nil {s1 s2} (g : GTok px x s1 none s2) : GRow px x s1 [] s2
  | cons {s1 l s' ls s2} (g : GTok px x s1 (some l) s') (r : GRow px x s' ls s2) : GRow px x s1 (l :: ls) s2
inductive StrsV : List Value → List (List Nat) → Prop
  | nil : StrsV [] []
  | cons {v l vs ls} (h : ∃ t, v = .str (S l) t) (r : StrsV vs ls) : StrsV (v :: vs) (l :: ls)
theorem find_len {w : World} : findIn (frag w.params) (.ref 722) "__len__" = some none := by k_is
theorem find_hint {w : World} : findIn (frag w.params) (.ref 722) "__length_hint__" = some none := by k_is
section
variable {prog : Program} {w : World} {p : Program} {loose : List Str} {mean : ExcName → Option Value} {mg mb : Str → Option Value} {dp un : Nat} {gd : Option (List Code)} {cn : Str} {cs : Scope} {a : Addr} {ccd : Value} {cl : List (Str × Addr)} {L : Addr} {outer : List Env} {A₀ : Around} {base h₀ : Heap} {m : Str → Option Value} {sh : Heap} {sg : Array GenState} {sd : Drawn} {sk : Nat} {so : OsState} {E : Value → Shared → Prop} {rest : List (Addr × Obj)}
  {px : Bool} {x : Str} {la lda ia ida pa fa : Addr} {D K : Nat → Tok}
theorem lx_list {n : Nat} {st : LS} {pb : Option Nat} {Sx : Addr} {o o' : Obj} {h h' : Heap} (R : Ord6 lda la ida ia pa fa) (hS : @LT.lt Nat _ fa Sx) (hr : ∀ q ∈ rest, q.1 ≠ Sx) (F : Fr h₀ L h m) (H : LX w.params h₀ L la lda ia ida pa fa D K px x ((Sx, o) :: rest) n st pb h)
    (hs : Heap.SameBut Sx h h') (ho : h'.get? Sx = some o') : Fr h₀ L h' m ∧ LX w.params h₀ L la lda ia ida pa fa D K px x ((Sx, o') :: rest) n st pb h' := by
  obtain ⟨ts, tl, tt, tp, ln, pst, pvs, hp, N⟩ := H
  obtain ⟨r1, r2, r3, r4, r5⟩ := R
  have z := N (Sx, o) (by k_mem)
  refine ⟨F.change hs z.2.1 z.2.2, ts, tl, tt, tp, ln, pst, pvs, hp, ?_⟩
  refine news_set (pre := [_, _, _, _, _, _]) N ?_ hr hs ho
  intro q hq
  simp only [List.mem_cons, List.not_mem_nil, or_false] at hq
  rcases hq with rfl | rfl | rfl | rfl | rfl | rfl <;> (refine neN ?_; dsimp only; omega)
theorem lx_seq {n : Nat} {st : LS} {pb : Option Nat} {Sx : Addr} {o : Obj} {h : Heap} (H : LX w.params h₀ L la lda ia ida pa fa D K px x ((Sx, o) :: rest) n st pb h) : h.get? Sx = some o := by
  obtain ⟨ts, tl, tt, tp, ln, pst, pvs, hp, N⟩ := H
  exact (N (Sx, o) (by k_mem)).1
theorem ext_loop {Sx : Addr} {res : Value} (B : Below A₀ base outer h₀) (X : (frag w.params).In h₀) (off : OwnOff rest [ia, ida, la, lda, pa, fa]) (R : Ord6 lda la ida ia pa fa) (T : Top p loose mean mg mb h₀) (hk : cs.kind = .function) (hz : x.length ≤ 100000) (hd : dp + 8 < recursionLimit)
    (hS : @LT.lt Nat _ fa Sx) (hr : ∀ q ∈ rest, q.1 ≠ Sx) {s2 : Nat × LS × Option Nat} {Rr : Result → Shared → Prop} :
    ∀ {toks : List (List Nat)} {s1 : Nat × LS × Option Nat} {acc : List Value} {c : Nat} {h : Heap} {k : Nat}, GRow px x s1 toks s2 → Fr h₀ L h m → LX w.params h₀ L la lda ia ida pa fa D K px x ((Sx, listOf acc.toArray c) :: rest) s1.1 s1.2.1 s1.2.2 h → acc.length + toks.length ≤ 1000 →
    (∀ g' h' k vs c', KtsTurn (outer.filterMap (·.frame)) h₀ g' → Fr g' L h' m → Below A₀ base outer g' → StrsV vs toks → LX w.params g' L la lda ia ida pa fa D K px x ((Sx, listOf (acc ++ vs).toArray c') :: rest) s2.1 s2.2.1 s2.2.2 h' → Rr (.ok (.ret res)) ⟨h', sg, sd, k, so⟩) →
    codeAny (model prog w) (ktrTop dp un gd cn cs L a ccd cl outer) (.builtin "list.extend.loop" ⟨[.ref Sx, .ref la, res], []⟩) Rr ⟨h, sg, sd, k, so⟩ := by
  have off' : ∀ o, OwnOff ((Sx, o) :: rest) [ia, ida, la, lda, pa, fa] := fun o => by
    obtain ⟨r1, r2, r3, r4, r5⟩ := R
    refine offCons (fun b hb => ?_) off
    simp only [List.mem_cons, List.not_mem_nil, or_false] at hb
    rcases hb with rfl | rfl | rfl | rfl | rfl | rfl <;> (refine neN ?_; dsimp only; omega)
  intro toks
  induction toks with
  | nil =>
    intro s1 acc c h k g F H hz' hret
    cases g with
    | nil g =>
      refine codeAny_builtin PySem.F.entry_extend_loop ?_
      rw [Around.under_plainId PySem.F.plain_extend_loop _]
      show wpAny _ (ktrTop dp (un + 1) gd cn cs L a ccd cl outer) (pyNext (.ref la) >>= _) _ _ _
      refine wpAny_bind (pyNext_end B F X (off' _) R T hk hz hd H g fun g' h' k' T' F' B' H' => ?_)
      exact wpAny_pure (hret g' h' k' [] c T' F' B' .nil (by rw [List.append_nil]; exact H'))
  | cons l ls ih =>
    intro s1 acc c h k g F H hz' hret
    cases g with
    | cons g r =>
      refine codeAny_builtin PySem.F.entry_extend_loop ?_
      rw [Around.under_plainId PySem.F.plain_extend_loop _]
      show wpAny _ (ktrTop dp (un + 1) gd cn cs L a ccd cl outer) (pyNext (.ref la) >>= _) _ _ _
      rw [List.length_cons] at hz'
      refine wpAny_bind (pyNext_tok B F X (off' _) R T hk hz hd H g fun h' k' v F' H' hv => ?_)
      show wpAny _ _ (updateSeq Sx (·.push v) >>= _) _ _ _
      have hS' := lx_seq H'
      refine wpAny_bind (wpAny_updateSeq hS' rfl ?_ (by simp [sizeLine]; omega) (by simp [sizeLine]; omega))
      have e : (acc.toArray.push v) = (acc ++ [v]).toArray := by simp
      obtain ⟨c1, e1⟩ : ∃ c1, Obj.mapSeq (·.push v) (listOf acc.toArray c) = listOf (acc ++ [v]).toArray c1 := ⟨_, by rw [← e]; rfl⟩
      obtain ⟨F'', H''⟩ := lx_list (h' := h'.update Sx (Obj.mapSeq (·.push v))) R hS hr F' H' (Heap.SameBut.update ..) ((Heap.get?_update_self _ hS' rfl).trans (congrArg some e1))
      refine wpAny_pure ⟨plainId_quiet PySem.F.plain_extend_loop _, ih r F'' H'' (by rw [List.length_append, List.length_singleton]; omega) fun g' h'' k'' vs c' T1 F1 B1 hvs H1 => ?_⟩
      exact hret g' h'' k'' (v :: vs) c' T1 F1 B1 (.cons hv.2 hvs) (by rw [List.append_assoc] at H1; exact H1)
theorem list_lex {toks : List (List Nat)} {s1 s2 : Nat × LS × Option Nat} (B : Below A₀ base outer h₀) (F : Fr h₀ L sh m) (X : (frag w.params).In h₀) (off : OwnOff rest [ia, ida, la, lda, pa, fa]) (R : Ord6 lda la ida ia pa fa) (T : Top p loose mean mg mb h₀) (hk : cs.kind = .function) (hz : x.length ≤ 100000) (hd : dp + 8 < recursionLimit)
    {Q : Value → Shared → Prop} (H : LX w.params h₀ L la lda ia ida pa fa D K px x rest s1.1 s1.2.1 s1.2.2 sh) (g : GRow px x s1 toks s2) (ht : toks.length ≤ 1000)
    (hret : ∀ Sx g' h' k vs c', (∀ q ∈ rest, @LT.lt Nat _ q.1 Sx) → KtsTurn (outer.filterMap (·.frame)) h₀ g' → Fr g' L h' m → Below A₀ base outer g' → StrsV vs toks → LX w.params g' L la lda ia ida pa fa D K px x ((Sx, listOf vs.toArray c') :: rest) s2.1 s2.2.1 s2.2.2 h' → Q (.ref Sx) ⟨h', sg, sd, k, so⟩) :
    wpAny (model prog w) (ktrTop dp un gd cn cs L a ccd cl outer) (call (.type "list") [.ref la]) Q E ⟨sh, sg, sd, sk, so⟩ := by
  refine callType_codes (Q₁ := fun obj s₁ => obj = .ref sh.objs.size ∧ s₁ = (⟨sh.push { cls := .type "list", data := .seq #[] }, sg, sd, sk, so⟩ : Shared)) PySem.F.called_list (PySem.F.typeCall_list_1 _) PySem.F.entry_list_init
    (code_list_new _ ⟨rfl, rfl⟩) fun obj s₁ h₁ => ?_
  obtain ⟨rfl, rfl⟩ := h₁
  have hSx : (sh.push { cls := .type "list", data := .seq #[] }).get? sh.objs.size = some { cls := .type "list", data := .seq #[] } := Heap.get?_push_size _ rfl
  obtain ⟨ts, tl, tt, tp, ln, pst, pvs, hp, N⟩ := H
  have N₁ : News h₀ L (sh.push { cls := .type "list", data := .seq #[] }) ((ia, instObj 587 ida) :: (ida, sioO w.params D x (s1.1 : Int) tp) :: (la, instObj 722 lda) :: (lda, lexO w.params K px ia pa fa (s1.2.1.val ts) ln tl (S []) tt) :: (pa, dequeO pst pvs) :: (fa, dequeO 0 []) :: (sh.objs.size, listOf #[] 0) :: rest) := by
    intro q hq
    by_cases e : q = (sh.objs.size, listOf #[] 0)
    · subst e
      exact ⟨hSx, Nat.ne_of_gt F.ns.lt, next_is_new F⟩
    · have z := N q (by
        simp only [List.mem_cons] at hq ⊢
        rcases hq with h | h | h | h | h | h | h | h
        · exact .inl h
        · exact .inr (.inl h)
        · exact .inr (.inr (.inl h))
        · exact .inr (.inr (.inr (.inl h)))
        · exact .inr (.inr (.inr (.inr (.inl h))))
        · exact .inr (.inr (.inr (.inr (.inr (.inl h)))))
        · exact absurd h e
        · exact .inr (.inr (.inr (.inr (.inr (.inr h))))))
      exact ⟨Heap.get?_push_of_some _ z.1, z.2⟩
  have hr : ∀ q ∈ rest, @LT.lt Nat _ q.1 sh.objs.size := fun q hq => Heap.lt_size (N q (by simp [hq])).1
  have hr' : ∀ q ∈ rest, q.1 ≠ sh.objs.size := fun q hq e => absurd (hr q hq) (by rw [e]; exact Nat.lt_irrefl _)
  have hS : @LT.lt Nat _ fa sh.objs.size := Heap.lt_size (N (fa, dequeO 0 []) (by k_mem)).1
  have hla : @LT.lt Nat _ la sh.objs.size := Heap.lt_size (N (la, instObj 722 lda) (by k_mem)).1
  have F₁ : Fr h₀ L (sh.push { cls := .type "list", data := .seq #[] }) m := F.push _
  have H₁ : LX w.params h₀ L la lda ia ida pa fa D K px x ((sh.objs.size, listOf #[] 0) :: rest) s1.1 s1.2.1 s1.2.2 (sh.push { cls := .type "list", data := .seq #[] }) := ⟨ts, tl, tt, tp, ln, pst, pvs, hp, N₁⟩
  generalize sh.objs.size = Sx at *
  generalize sh.push { cls := .type "list", data := .seq #[] } = h₁ at *
  refine ⟨⟨_, hSx, rfl⟩, PySem.F.args_list_init_2 _ _, ?_⟩
  show wpAny _ (ktrTop dp (un + 1 + 1) gd cn cs L a ccd cl outer) (do let old ← Builtin.List.listItems (.ref Sx); Builtin.List.listUpdate (.ref Sx) (fun _ => #[]); letGo old.toList.reverse; Builtin.List.listExtendWith (.ref Sx) (.ref la) .none) _ _ _
  refine wpAny_bind ?_
  unfold Builtin.List.listItems
  refine wpAny_bind (wpAny_seqItems hSx rfl (wpAny_pure ?_))
  show wpAny _ _ (updateSeq Sx (fun _ => #[]) >>= fun _ => letGo (#[] : Array Value).toList.reverse >>= fun _ => Builtin.List.listExtendWith (.ref Sx) (.ref la) .none) _ _ _
  refine wpAny_bind (wpAny_updateSeq hSx rfl ?_)
  obtain ⟨F₂, H₂⟩ := lx_list (o' := listOf #[] 0) R hS hr' F₁ H₁ (Heap.SameBut.update ..) (Heap.get?_update_self (Obj.mapSeq (fun _ => (#[] : Array Value))) hSx rfl)
  generalize h₁.update Sx (Obj.mapSeq fun _ => #[]) = h₂ at *
  refine wpAny_bind (wpAny_letGo ?_)
  unfold Builtin.List.listExtendWith
  obtain ⟨od, I⟩ := lex_inst H₂
  refine wpAny_bind (I.type.here ?_)
  have h1 : Builtin.List.listSameRef (.ref Sx) (.ref la) = false := by
    show (Sx == la) = false
    exact beq_false_of_ne (neN (Nat.ne_of_gt hla))
  have h2 : (Value.ref 722 == Value.type "list") = false := by decide
  have h3 : (Value.ref 722 == Value.type "tuple") = false := by decide
  simp only [h1, h2, h3, Bool.or_false, Bool.false_eq_true, if_false]
  refine wpAny_bind (pyIter_lex B F₂ X T hk hd H₂ fun h₃ k₃ F₃ H₃ => ?_)
  refine wpAny_bind (wpAny_holding ?_)
  unfold Builtin.List.listLengthHint
  obtain ⟨od', I'⟩ := lex_inst H₃
  refine wpAny_bind (wpAny_bind (I'.type.here ((looks_findIn (X.keeps F₃.keep) find_len).here ?_)))
  show wpAny _ _ (specialOf (Value.ref la) (Str.ofString "__length_hint__") >>= _) _ _ _
  refine wpAny_bind (wpAny_bind (I'.type.here ((looks_findIn (X.keeps F₃.keep) find_hint).here ?_)))
  refine wpAny_pure ?_
  show wpAny _ _ (rule "list.extend.makes-room" >>= fun _ => Builtin.List.listTouch (.ref Sx) >>= fun _ =>
    again (.builtin "list.extend.loop" ⟨[.ref Sx, .ref la, .none], []⟩)) _ _ _
  refine wpAny_bind (wpAny_rule ?_)
  refine wpAny_bind ?_
  show wpAny _ _ (updateSeq Sx (·.push .none) >>= fun _ => updateSeq Sx (·.pop)) _ _ _
  have hS3 := lx_seq H₃
  refine wpAny_bind (wpAny_updateSeq hS3 rfl ?_)
  obtain ⟨F₄, H₄⟩ := lx_list R hS hr' F₃ H₃ (Heap.SameBut.update ..) (Heap.get?_update_self (Obj.mapSeq (·.push Value.none)) hS3 rfl)
  generalize h₃.update Sx (Obj.mapSeq (·.push Value.none)) = h₄ at *
  have hS4 := lx_seq H₄
  refine wpAny_updateSeq hS4 rfl ?_
  obtain ⟨c1, e1⟩ : ∃ c1, Obj.mapSeq (·.pop) (Obj.mapSeq (·.push Value.none) (listOf #[] 0)) = listOf ([] : List Value).toArray c1 := ⟨_, rfl⟩
  obtain ⟨F₅, H₅⟩ := lx_list (h' := h₄.update Sx (Obj.mapSeq (·.pop))) R hS hr' F₄ H₄ (Heap.SameBut.update ..) ((Heap.get?_update_self _ hS4 rfl).trans (congrArg some e1))
  generalize h₄.update Sx (Obj.mapSeq (·.pop)) = h₅ at *
  refine wpAny_pure ⟨plainId_quiet PySem.F.plain_extend_loop _, ?_⟩
  exact ext_loop (un := un + 1) B X off R T hk hz hd hS hr' g F₅ H₅ (by simp; omega) fun g' h' k' vs c' T' F' B' hvs H' => ⟨rfl, hret Sx g' h' k' vs c' hr T' F' B' hvs H'⟩
end
end
section
local macro_rules | `(tactic| walk_at "call ref") => `(tactic| ((with_reducible show wpAny _ _ (call (Value.ref 683) _) _ _ _); k_dflt 
  (refine' get_token ?B ?F ?X ?off ?R ?T ?hk ?hz ?hd ?H ?g ?_; (case B => k_asm); (case F => k_asm); (case X => k_asm); (case off => assumption); (case R => assumption); (case T => k_asm); (case hk => exact rfl); (case hd => ktr_room); (case g => assumption); (case H => exact ⟨_, _, _, _, _, _, _, (by assumption), by k_asm⟩); (case hz => assumption); intro h1 k1 v1 F1 H1 hv1; obtain ⟨ts1, tl1, tt1, tp1, ln1, pst1, pvs1, hp1, N1⟩ := H1; (have hh1 := TokG.handed hv1); (try k_sweep))))
theorem boot_stop : bootBuiltins (Str.ofString "StopIteration") = some (.type "StopIteration") := PyProof.Rows.Boot.«StopIteration»
theorem isExc_stop : isSubtype (.type "StopIteration") (.type "BaseException") = pure true := by rw [isSubtype_type]; kernel_rfl
theorem notTuple_stop : isSubtype (.type ((Manifest.find? "StopIteration").elim "type" fun x => x.metatype)) (.type "tuple") = pure false := by
  rw [show ((Manifest.find? "StopIteration").elim "type" fun x => x.metatype) = "type" from by kernel_rfl, isSubtype_type]; kernel_rfl
section
variable {prog : Program} {w : World} {A A₀ : Around} {base h₀ : Heap} {s : Shared} {L : Addr} {m : Str → Option Value} {news : List (Addr × Obj)} {K : Frag} {p : Program} {loose : List Str} {mean : ExcName → Option Value} {mg mb : Str → Option Value}
/-- a def with a try, called out of a frame that may hold cells -/
theorem enterX {env : Env} {R : Result → Shared → Prop} {name qual : Str} {params : Arguments} {body : List Stmt} {scope : Scope} {dV kV doc pm cdv ct oc : Value} {an od : Option Addr} {osl : Array (Option Value)} {f : Addr} {args : Args} {binds : List (Str × Value)}
    (B : Below A₀ base [] h₀) (F : Fr h₀ L s.heap m) (X₀ : K.In h₀) (N : News h₀ L s.heap news) (T : Top p loose mean mg mb h₀) (hA : A.frames = some [env]) (hf : env.frame = some L) (hke : env.scope.kind = .function)
    (ho : K.lookup f = some ⟨oc, od, .func (fnOf name qual params body scope dV kV doc pm an cdv ct), osl⟩) (hcd : codeIn K cdv qual = true) (hroom : A.depth < recursionLimit)
    (hbind : BindsTo s (fnOf name qual params body scope dV kV doc pm an cdv ct) args binds) (hloc : ∀ y ∈ binds, scope.names.lookup y.1 = some .local)
    (h : ∀ g L' h₁, Fr h₀ L g m → Fr g L' h₁ (fun y => binds.reverse.lookup y) → News g L' h₁ news → Below A base [env] g → K.In g → Top p loose mean mg mb g → KtsDicts ([env].filterMap (·.frame)) g →
      wpAny (model prog w) (A.deeper (envOf qual scope L' f cdv)) (execs body (envOf qual scope L' f cdv))
        (fun fl s' => LeaveS0 ([env].filterMap (·.frame)) h₀ L m g R (match fl with | .ret v => v | _ => .none) s')
        (fun e s' => wpAny (model prog w) (A.deeper (envOf qual scope L' f cdv)) (leaving (envOf qual scope L' f cdv) e) (fun _ s'' => R (.error e) s'') (fun e' s'' => R (.error e') s'') s')
        { s with heap := h₁, toks := s.toks + binds.length })
    (hco : scope.isCoroutine = false) (hgen : scope.isGenerator = false) (hk : scope.kind = .function)
    (hcell : ∀ x ∈ scope.names, x.2 ≠ .cell) : codeAny (model prog w) A (.call (.ref f) args) R s := by
  have fs : [env].filterMap (·.frame) = [L] := by simp [hf]
  obtain ⟨oL, es, ep, hLg, hLd, hN, hNs, st, B₂⟩ := kts_enter (A := { A with frames := some [envOf name env.scope L f cdv] }) B F N rfl hke
  have B₃ : Below A base [env] (hideAll s.heap (news.map (·.1))) := by
    obtain ⟨_, b2, b3, ⟨L₁, o₁, c1, c2, c3, c4⟩, _⟩ := B₂
    cases (Option.some.inj c1 : L = L₁)
    exact ⟨hA, b2, b3, ⟨L, o₁, hf, c2, c3, c4⟩, trivial⟩
  refine codeAny_call_def (fd := fnOf name qual params body scope dV kV doc pm an cdv ct) (body := body) (binds := binds) hroom ((X₀.keeps F.keep) _ _ ho) rfl (T.nolimit.keeps F.keep) (codeRec_of (X₀.keeps F.keep) hcd) rfl hbind hcell hloc (fun h₁ hns hk₁ => ?_) hco hgen hk
  have F₁ : Fr h₀ L (hideAll s.heap (news.map (·.1))) m := ⟨hN _ hLg, st, F.above⟩
  have F₂ : Fr (hideAll s.heap (news.map (·.1))) s.heap.objs.size h₁ (fun y => binds.reverse.lookup y) := ⟨hns, fun b o e => hk₁ b o (of_hideAll _ e), Nat.le_of_eq (hideAll_size _ _)⟩
  have N₂ : News (hideAll s.heap (news.map (·.1))) s.heap.objs.size h₁ news := fun q hq => ⟨hk₁ _ _ (N q hq).1, Nat.ne_of_lt (Heap.lt_size (N q hq).1), hideAll_none _ (List.mem_map_of_mem hq)⟩
  have D₂ : KtsDicts ([env].filterMap (·.frame)) (hideAll s.heap (news.map (·.1))) := by
    rw [fs]
    intro b hb
    rw [List.mem_singleton.mp hb]
    exact ⟨oL, es, ep, hLg, hLd⟩
  refine wpAny_mono (h _ _ h₁ F₁ F₂ N₂ B₃ (X₀.keeps st) (T.keeps st) D₂) (fun fl s' hl => ?_) fun _ _ y => y
  obtain ⟨g', L', m', news', T', F', N', k⟩ := hl
  rw [fs] at T'
  have nL : h₀.get? L = none := kts_self F
  obtain ⟨sl, hs⟩ := T'.up hLg
  have back : ∀ b o, h₀.get? b = some o → g'.get? b = some o := fun b o e => T'.other b o (st b o e) fun z => by
    rw [List.mem_singleton.mp z, nL] at e
    cases e
  refine k ⟨hNs sl _ (F'.keep _ _ hs), fun b o e => F'.keep b o (back b o e), F.above⟩ fun q hq => ⟨(N' q hq).1, fun z => ?_, ?_⟩
  · have := (N' q hq).2.2
    rw [z, hs] at this
    cases this
  · cases z : h₀.get? q.1 with
    | none => rfl
    | some o =>
      have := (N' q hq).2.2
      rw [back _ _ z] at this
      cases this
end
local macro_rules | `(tactic| walk_at "call builtin:next") => `(tactic| ((with_reducible show wpAny _ _ (call (Value.builtin "next") [Value.ref _]) _ _ _); k_dflt first
  | (refine' bnext_tok ?B ?F ?X ?off ?R ?T ?hk ?hz ?hd ?H ?g ?_; (case g => assumption); (case B => k_asm); (case F => k_asm); (case X => k_asm); (case off => assumption); (case R => assumption); (case T => k_asm); (case hk => exact rfl); (case hd => ktr_room); (case H => exact ⟨_, _, _, _, _, _, _, (by assumption), by k_asm⟩); (case hz => assumption); intro h1 k1 v1 F1 H1 hv1; obtain ⟨ts1, tl1, tt1, tp1, ln1, pst1, pvs1, hp1, N1⟩ := H1; (have hh1 := TokG.handed hv1); (try k_sweep))
  | (refine' bnext_end ?B ?F ?X ?off ?R ?T ?hk ?hz ?hd ?H ?g ?_; (case g => assumption); (case B => k_asm); (case F => k_asm); (case X => k_asm); (case off => assumption); (case R => assumption); (case T => k_asm); (case hk => exact rfl); (case hd => ktr_room); (case H => exact ⟨_, _, _, _, _, _, _, (by assumption), by k_asm⟩); (case hz => assumption); intro g1 h1 e1 t1 k1 n1 F1 H1 S1 U1; obtain ⟨ts1, tl1, tt1, tp1, ln1, pst1, pvs1, hp1, hn1⟩ := H1; subst hn1; (try dsimp only at S1 U1 ⊢))))
local macro_rules | `(tactic| walk_at "call builtin:iter") => `(tactic| ((with_reducible show wpAny _ _ (call (Value.builtin "iter") [Value.ref _]) _ _ _); k_dflt 
  (refine' biter_lex ?B ?F ?X ?T ?hk ?hd ?H ?_; (case H => exact ⟨_, _, _, _, _, _, _, (by assumption), by k_asm⟩); (case B => k_asm); (case F => k_asm); (case X => k_asm); (case T => k_asm); (case hk => exact rfl); (case hd => ktr_room); intro h1 k1 F1 H1; obtain ⟨ts1, tl1, tt1, tp1, ln1, pst1, pvs1, hp1, N1⟩ := H1; (try k_sweep))))
local macro_rules | `(tactic| walk_at "call type:list") => `(tactic| ((with_reducible show wpAny _ _ (call (Value.type "list") [Value.ref _]) _ _ _); k_dflt 
  (refine' list_lex ?B ?F ?X ?off ?R ?T ?hk ?hz ?hd ?H ?g ?ht ?_; (case g => assumption); (case ht => assumption); (case B => k_asm); (case F => k_asm); (case X => k_asm); (case off => assumption); (case R => assumption); (case T => k_asm); (case hk => exact rfl); (case hd => ktr_room); (case H => exact ⟨_, _, _, _, _, _, _, (by assumption), by k_asm⟩); (case hz => assumption); intro S1 g1 h1 k1 vs1 c1 l1 T1 F1 B1 hv1 H1; obtain ⟨ts1, tl1, tt1, tp1, ln1, pst1, pvs1, hp1, N1⟩ := H1; (try k_sweep))))
local macro_rules | `(tactic| walk_at "pyNext ref") => `(tactic| ((with_reducible show wpAny _ _ (pyNext (Value.ref _)) _ _ _); k_dflt first
  | (refine' pyNext_tok ?B ?F ?X ?off ?R ?T ?hk ?hz ?hd ?H ?g ?_; (case g => assumption); (case B => k_asm); (case F => k_asm); (case X => k_asm); (case off => assumption); (case R => assumption); (case T => k_asm); (case hk => exact rfl); (case hd => ktr_room); (case H => exact ⟨_, _, _, _, _, _, _, (by assumption), by k_asm⟩); (case hz => assumption); intro h1 k1 v1 F1 H1 hv1; obtain ⟨ts1, tl1, tt1, tp1, ln1, pst1, pvs1, hp1, N1⟩ := H1; (have hh1 := TokG.handed hv1); (try k_sweep))
  | (refine' pyNext_end ?B ?F ?X ?off ?R ?T ?hk ?hz ?hd ?H ?g ?_; (case g => assumption); (case B => k_asm); (case F => k_asm); (case X => k_asm); (case off => assumption); (case R => assumption); (case T => k_asm); (case hk => exact rfl); (case hd => ktr_room); (case H => exact ⟨_, _, _, _, _, _, _, (by assumption), by k_asm⟩); (case hz => assumption); intro g1 h1 k1 T1 F1 B1 H1; obtain ⟨ts1, tl1, tt1, tp1, ln1, pst1, pvs1, hp1, N1⟩ := H1; (try k_sweep))))
local macro_rules | `(tactic| kts_caught) => `(tactic| ((with_reducible show wpAny _ _ (noteFrame _ _) (fun _ s₂ => wpAny _ _ (setFlight _ none) (fun _ s₃ => wpAny _ _ (handleBy _ _ (ExceptHandler.ExceptHandler (some (Expr.Name ("StopIteration" : Str) _)) none _ _ :: _)) _ _ s₃) _ s₂) _ _); k_dflt 
  (refine' caught_S0 (T' := "StopIteration") ?R ?F ?K ?U ?XB ?TB ?D ?T0 ?ex boot_stop ?hn isExc_stop notTuple_stop ?hs ?_; (case R => assumption); (case F => assumption); (case K => assumption); (case U => assumption); (case XB => assumption); (case TB => assumption); (case D => assumption); (case T0 => first | assumption | exact KtsTurn.refl); (case hs => exact sub_stop); (case ex => k_is); (case hn => decide); k_whole); intro h' g' n₂ T' F' N₂ G' N' K' X' P' D'; (try k_lift K'); (try k_sweep)))
inductive Take (px : Bool) (x : Str) (hand : Nat) (s1 : Nat × LS × Option Nat) : List (List Nat) → Nat × LS × Option Nat → Prop
  | one {l s2} (h : hand < 4) (g : GTok px x s1 (some l) s2) : Take px x hand s1 [l] s2
  | none {s2} (h : hand < 4) (g : GTok px x s1 none s2) : Take px x hand s1 [] s2
  | all {ls s2} (h : hand = 4) (g : GRow px x s1 ls s2) (hz : ls.length ≤ 1000) : Take px x hand s1 ls s2
theorem TokG.some {px : Bool} {l : List Nat} {v : Value} (h : TokG px (some l) v) : isEnd px (some l) = false ∧ ∃ t, v = .str (S l) t := h
section
variable {prog : Program} {w : World} {p : Program} {loose : List Str} {mean : ExcName → Option Value} {mg mb : Str → Option Value} {dp un : Nat} {gd : Option (List Code)} {cn : Str} {cs : Scope} {a : Addr} {ccd : Value} {cl : List (Str × Addr)} {L : Addr} {A₀ : Around} {base h₀ : Heap} {m : Str → Option Value} {sh : Heap} {sg : Array GenState} {sd : Drawn} {sk : Nat} {so : OsState} {E : Value → Shared → Prop} {rest : List (Addr × Obj)}
  {px : Bool} {x : Str} {la lda ia ida pa fa : Addr} {D K : Nat → Tok} {s1 s2 : Nat × LS × Option Nat} {l : List Nat}
theorem lx_front {n : Nat} {st : LS} {pb : Option Nat} {Sx : Addr} {o : Obj} {h : Heap} {ts tl tt tp : Tok} {ln pst : Int} {pvs : List Value} (hp : PbV pb pvs)
    (N : News h₀ L h ((Sx, o) :: (ia, instObj 587 ida) :: (ida, sioO w.params D x (n : Int) tp) :: (la, instObj 722 lda) :: (lda, lexO w.params K px ia pa fa (st.val ts) ln tl (S []) tt) :: (pa, dequeO pst pvs) :: (fa, dequeO 0 []) :: rest)) :
    LX w.params h₀ L la lda ia ida pa fa D K px x ((Sx, o) :: rest) n st pb h := by
  refine ⟨ts, tl, tt, tp, ln, pst, pvs, hp, fun q hq => N q ?_⟩
  simp only [List.mem_cons] at hq ⊢
  rcases hq with h | h | h | h | h | h | h | h
  · exact .inr (.inl h)
  · exact .inr (.inr (.inl h))
  · exact .inr (.inr (.inr (.inl h)))
  · exact .inr (.inr (.inr (.inr (.inl h))))
  · exact .inr (.inr (.inr (.inr (.inr (.inl h)))))
  · exact .inr (.inr (.inr (.inr (.inr (.inr (.inl h))))))
  · exact .inl h
  · exact .inr (.inr (.inr (.inr (.inr (.inr (.inr h))))))
theorem allLt_to {d : Addr} : ∀ {l : List (Addr × Obj)}, AllLt d l → ∀ q ∈ l, @LT.lt Nat _ q.1 d
  | [], _, _, h => nomatch h
  | _ :: _, ⟨a, b⟩, q, hq => by
    rcases List.mem_cons.mp hq with rfl | hq
    · exact a
    · exact allLt_to b q hq
theorem lt7 {d : Addr} {a b c e f g : Prop} (h : a ∧ b ∧ c ∧ e ∧ f ∧ g ∧ AllLt d rest) : ∀ q ∈ rest, @LT.lt Nat _ q.1 d := allLt_to h.2.2.2.2.2.2
theorem law_take {t te : Tok} {hand : Nat} {toks : List (List Nat)} (B : Below A₀ base [] h₀) (F : Fr h₀ L sh m) (X : (frag w.params).In h₀) (off : OwnOff rest [ia, ida, la, lda, pa, fa]) (R : Ord6 lda la ida ia pa fa) (T : Top p loose mean mg mb h₀) (hk : cs.kind = .function) (hz : x.length ≤ 100000) (hd : dp + 10 < recursionLimit) (XB : (frag w.params).In base) (TB : Top p loose mean mg mb base)
    {Q : Value → Shared → Prop} (H : LX w.params h₀ L la lda ia ida pa fa D K px x rest s1.1 s1.2.1 s1.2.2 sh) (g : Take px x hand s1 toks s2)
    (hret : ∀ Sx h' k vs c', (∀ q ∈ rest, @LT.lt Nat _ q.1 Sx) → Fr h₀ L h' m → StrsV vs toks → LX w.params h₀ L la lda ia ida pa fa D K px x ((Sx, listOf vs.toArray c') :: rest) s2.1 s2.2.1 s2.2.2 h' → Q (.ref Sx) ⟨h', sg, sd, k, so⟩) :
    wpAny (model prog w) (ktrTop dp un gd cn cs L a ccd cl []) (call (.ref 747) [.ref la, .int (hand : Int) t, eofV px te]) Q E ⟨sh, sg, sd, sk, so⟩ := by
  obtain ⟨ts, tl, tt, tp, ln, pst, pvs, hp, N⟩ := H
  have hE : handedIn (eofV px te) = true := by cases px <;> rfl
  have hh : ∀ {n : Nat}, n < 4 → n = 0 ∨ n = 1 ∨ n = 2 ∨ n = 3 := by intro n; omega
  cases g with
  | one h g =>
    rcases hh h with rfl | rfl | rfl | rfl
    all_goals
      refine wpAny_call ?_
      k_dflt (refine' enterX ?k1 ?k2 ?k3 ?k4 ?k5 ?kA ?kF ?cK ?k6 ?k7 ?k8 ?k9 ?kB ?_ ?c2 ?c3 ?c4 ?c5; (case kA => exact rfl); (case kF => exact rfl); (case k2 => k_asm); (case k1 => k_asm); (case k3 => k_asm); (case k4 => k_asm); (case k5 => k_asm); (case k6 => k_is); (case k7 => k_is); (case k8 => ktr_room); (case k9 => first | exact BindsTo.of_eq rfl | exact binds_K (by k_in) rfl (by k_is) rfl rfl rfl); (case kB => exact locs rfl); (case cK => assumption); (case c2 => exact rfl); (case c3 => exact rfl); (case c4 => exact rfl); (case c5 => decide); k_whole; intro g' L' h' FG' F' N' B' X' T' D'; (try dsimp only); (try k_fold))
      k_steps
      try (refine eq_eofG (o := some _) (b := false) (by assumption) rfl ?_; k_steps)
      exact hret _ _ _ [_] _ (lt7 (by assumption)) (by assumption) (.cons (And.right (TokG.some (by assumption))) .nil) (lx_front (by assumption) (by assumption))
  | none h g =>
    rcases hh h with rfl | rfl | rfl | rfl
    all_goals
      refine wpAny_call ?_
      k_dflt (refine' enterX ?k1 ?k2 ?k3 ?k4 ?k5 ?kA ?kF ?cK ?k6 ?k7 ?k8 ?k9 ?kB ?_ ?c2 ?c3 ?c4 ?c5; (case kA => exact rfl); (case kF => exact rfl); (case k2 => k_asm); (case k1 => k_asm); (case k3 => k_asm); (case k4 => k_asm); (case k5 => k_asm); (case k6 => k_is); (case k7 => k_is); (case k8 => ktr_room); (case k9 => first | exact BindsTo.of_eq rfl | exact binds_K (by k_in) rfl (by k_is) rfl rfl rfl); (case kB => exact locs rfl); (case cK => assumption); (case c2 => exact rfl); (case c3 => exact rfl); (case c4 => exact rfl); (case c5 => decide); k_whole; intro g' L' h' FG' F' N' B' X' T' D'; (try dsimp only); (try k_fold))
      k_steps
      try (refine eq_eofG (o := none) (b := true) (by assumption) rfl ?_; k_steps)
      exact hret _ _ _ [] _ (lt7 (by assumption)) (by assumption) .nil (lx_front (by assumption) (by assumption))
  | all h g hz =>
    subst h
    refine wpAny_call ?_
    k_dflt (refine' enterX ?k1 ?k2 ?k3 ?k4 ?k5 ?kA ?kF ?cK ?k6 ?k7 ?k8 ?k9 ?kB ?_ ?c2 ?c3 ?c4 ?c5; (case kA => exact rfl); (case kF => exact rfl); (case k2 => k_asm); (case k1 => k_asm); (case k3 => k_asm); (case k4 => k_asm); (case k5 => k_asm); (case k6 => k_is); (case k7 => k_is); (case k8 => ktr_room); (case k9 => first | exact BindsTo.of_eq rfl | exact binds_K (by k_in) rfl (by k_is) rfl rfl rfl); (case kB => exact locs rfl); (case cK => assumption); (case c2 => exact rfl); (case c3 => exact rfl); (case c4 => exact rfl); (case c5 => decide); k_whole; intro g' L' h' FG' F' N' B' X' T' D'; (try dsimp only); (try k_fold))
    k_steps
    exact hret _ _ _ _ _ (by assumption) (by assumption) (by assumption) ⟨_, _, _, _, _, _, _, (by assumption), (by assumption)⟩
end
end
end
end
section
theorem mk_deque {prog : Program} {w : World} {A : Around} {E : Value → Shared → Prop} {s : Shared} {h₀ : Heap} {L : Addr} {m : Str → Option Value} {news : List (Addr × Obj)} {Q : Value → Shared → Prop} (F : Fr h₀ L s.heap m) (N : News h₀ L s.heap news)
    (h : ∀ h' D, Fr h₀ L h' m → News h₀ L h' ((D, dequeO 0 []) :: news) → (∀ q ∈ news, @LT.lt Nat _ q.1 D) → Q (.ref D) { s with heap := h' }) : wpAny (model prog w) A (call (.type "collections.deque") []) Q E s :=
  call_deque fun h' hk hD => h h' _ (F.keeps hk) (news_pushed F N hk hD rfl) fun q hq => Heap.lt_size (N q hq).1
local macro_rules | `(tactic| walk_at "call type:collections.deque") => `(tactic| ((with_reducible show wpAny _ _ (call (Value.type "collections.deque") []) _ _ _); k_dflt (refine' mk_deque ?F ?N ?_; (case F => k_asm); (case N => k_asm)); intro h' D' F' N' l1; (try k_lt l1); (try k_sweep)))
local macro_rules | `(tactic| walk_at "call ref") => `(tactic| ((with_reducible show wpAny _ _ (call (Value.ref 587) [Value.str _ _]) _ _ _); k_dflt 
  (refine' make_sio ?hz ?B ?F ?X ?N ?T ?hk ?hd ?_; (case hz => assumption); (case B => k_asm); (case F => k_asm); (case X => k_asm); (case N => k_asm); (case T => k_asm); (case hk => exact rfl); (case hd => ktr_room); intro h' k' D' tp' ida' ia' F' N' l1 l2; (try k_lt l1); (try k_lt2 l2); (try k_sweep))))
theorem newsPerm6 {h₀ h : Heap} {L : Addr} {a b c d e f : Addr × Obj} {news : List (Addr × Obj)} (N : News h₀ L h (f :: e :: a :: b :: c :: d :: news)) : News h₀ L h (a :: b :: c :: d :: e :: f :: news) := fun q hq => N q (by
  simp only [List.mem_cons] at hq ⊢
  rcases hq with h | h | h | h | h | h | h
  · exact .inr (.inr (.inl h))
  · exact .inr (.inr (.inr (.inl h)))
  · exact .inr (.inr (.inr (.inr (.inl h))))
  · exact .inr (.inr (.inr (.inr (.inr (.inl h)))))
  · exact .inr (.inl h)
  · exact .inl h
  · exact .inr (.inr (.inr (.inr (.inr (.inr h))))))
theorem ord6Of {la lda ia ida pa fa : Addr} {x1 x2 x3 : Prop} (h1 : @LT.lt Nat _ la ida ∧ x1) (h2 : @LT.lt Nat _ lda la) (h3 : @LT.lt Nat _ ida ia) (h4 : @LT.lt Nat _ ia pa ∧ x2) (h5 : @LT.lt Nat _ pa fa ∧ x3) : Ord6 lda la ida ia pa fa := ⟨h2, h1.1, h3, h4.1, h5.1⟩
section
variable {prog : Program} {w : World} {p : Program} {loose : List Str} {mean : ExcName → Option Value} {mg mb : Str → Option Value} {dp un : Nat} {gd : Option (List Code)} {cn : Str} {cs : Scope} {a : Addr} {ccd : Value} {cl : List (Str × Addr)} {outer : List Env} {A₀ : Around} {base h₀ : Heap} {L : Addr} {m : Str → Option Value} {sh : Heap} {sg : Array GenState} {sd : Drawn} {sk : Nat} {so : OsState} {Q E : Value → Shared → Prop} {news : List (Addr × Obj)}
theorem mk_lex {x : Str} {t : Tok} {px : Bool} (hz : x.length ≤ 100000)
    (B : Below A₀ base outer h₀) (F : Fr h₀ L sh m) (X : (frag w.params).In h₀) (N : News h₀ L sh news) (T : Top p loose mean mg mb h₀) (hk : cs.kind = .function) (hd : dp + 12 < recursionLimit)
    (hret : ∀ h' k D K la lda ia ida pa fa, Ord6 lda la ida ia pa fa → (∀ q ∈ news, @LT.lt Nat _ q.1 lda) → Fr h₀ L h' m → LX w.params h₀ L la lda ia ida pa fa D K px x news 0 .sp none h' → Q (.ref la) ⟨h', sg, sd, k, so⟩) :
    wpAny (model prog w) (ktrTop dp un gd cn cs L a ccd cl outer) (call (.ref 722) [.str x t] [(Str.ofString "posix", .bool px)]) Q E ⟨sh, sg, sd, sk, so⟩ := by
  cases px
  all_goals
    refine call_cls F X N (by k_is) (by k_is) (by k_is) (fI := 646) fun la lda h₁ F₁ N₁ lt1 lt2 => ?_
    rw [show ∀ pos kw, (ktrTop dp un gd cn cs L a ccd cl outer).under (.builtin "type.__call__" ⟨.ref 722 :: pos, kw⟩) = ktrTop (dp + 1) (un + 1) gd cn cs L a ccd cl outer from fun _ _ => rfl]
    have off : OwnOff news [la, lda] := by
      intro q hq b hb
      have l1 : @LT.lt Nat _ q.1 lda := lt1 q hq
      have l2 : @LT.lt Nat _ lda la := lt2
      rcases List.mem_cons.mp hb with rfl | hb
      · exact neN (by omega)
      · rw [List.mem_singleton.mp hb]; exact neN (by omega)
    have lt3 : @LT.lt Nat _ lda la := lt2
    k_dflt ktr_enter
    k_steps
    rename News _ _ _ _ => NN
    have NN' := newsPerm6 NN
    first
    | exact hret _ _ _ (fun n => List.getD [_, _, _, _, _, _, _, _, _, _, _, _, _, _, _, _, _, _, _, 0, 0, 0, 0, _, _, _, _, 0, _, _, _, 0, 0, 0, _, 0, 0, 0, _] n 0) la lda _ _ _ _ (ord6Of (by assumption) lt3 (by assumption) (by assumption) (by assumption)) lt1 (by assumption) ⟨_, _, _, _, _, _, _, rfl, NN'⟩
    | exact hret _ _ _ (fun n => List.getD [_, _, _, _, _, _, _, _, _, _, _, _, _, _, _, _, _, _, _, 0, 0, 0, 0, 0, _, _, _, 0, _, _, _, 0, 0, 0, _, 0, 0, 0, _] n 0) la lda _ _ _ _ (ord6Of (by assumption) lt3 (by assumption) (by assumption) (by assumption)) lt1 (by assumption) ⟨_, _, _, _, _, _, _, rfl, NN'⟩
end
end
inductive Due (px : Bool) (x : Str) : Nat × LS × Option Nat → List (List Nat × Nat) → Prop
  | nil {s} (g : GTok px x s none (x.length, .eof, none)) : Due px x s []
  | cons {s s' t q l} (g : GTok px x s (some t) s') (hn : s'.1 = min x.length q) (hp : (∃ c l', l = ([c], q) :: l' ∧ s'.2.2 = some c) ∨ (s'.2.2 = none ∧ ∀ z ∈ l.head?, z.2 ≠ q)) (hs : s'.2.1 = .sp ∨ s'.2.1 = .eof) (r : Due px x s' l) : Due px x s ((t, q) :: l)
def dueOf (px : Bool) : Nat → List Nat → List (List Nat × Nat)
  | _, [] => []
  | n, k :: r => (partT px k).map (fun z => (z.1, n + z.2)) ++ dueOf px (n + (partW k).length) r
def txtOf (ks : List Nat) : List Nat := (ks.map partW).flatten
theorem dueOf_pos {px : Bool} : ∀ {ks : List Nat} {n : Nat}, ∀ z ∈ dueOf px n ks, n < z.2
  | [], _, _, h => nomatch h
  | k :: r, n, z, h => by
    rcases List.mem_append.mp h with h | h
    · obtain ⟨y, hy, rfl⟩ := List.mem_map.mp h
      have : 0 < y.2 := by
        match k, px with
        | 0, _ => simp [partT] at hy; subst hy; decide
        | 1, _ => simp [partT] at hy; rcases hy with rfl | rfl <;> decide
        | 2, true => simp [partT] at hy; subst hy; decide
        | 2, false => simp [partT] at hy; subst hy; decide
        | 3, true => simp [partT] at hy; subst hy; decide
        | 3, false => simp [partT] at hy; subst hy; decide
        | 4, _ => simp [partT] at hy
        | 5, _ => simp [partT] at hy; rcases hy with rfl | rfl <;> decide
        | _ + 6, true => simp [partT] at hy; subst hy; decide
        | _ + 6, false => simp [partT] at hy; subst hy; decide
      show n < n + y.2
      omega
    · have := dueOf_pos z h
      omega
theorem dueHead {px : Bool} {ks : List Nat} {n : Nat} : ∀ z ∈ (dueOf px n ks).head?, z.2 ≠ n := fun z hz => by
  have := dueOf_pos z (List.mem_of_mem_head? hz)
  omega
section
variable {px : Bool} {x : Str}
theorem GTok.more {n n' : Nat} {o : Option (List Nat)} {s : Nat × LS × Option Nat} {f : Flow} (t : Turn px x n .sp [] false f n' .sp [] false none) (hf : f = .next ∨ f = .cont) (g : GTok px x (n', .sp, none) o s) : GTok px x (n, .sp, none) o s := by
  cases g with
  | new r htz he => exact .new (.more t hf r) htz he
  | out r htz he => exact .out (.more t hf r) htz he
theorem Due.more {n n' : Nat} {l : List (List Nat × Nat)} {f : Flow} (t : Turn px x n .sp [] false f n' .sp [] false none) (hf : f = .next ∨ f = .cont) (d : Due px x (n', .sp, none) l) : Due px x (n, .sp, none) l := by
  cases d with
  | nil g => exact .nil (g.more t hf)
  | cons g hn hp hs r => exact .cons (g.more t hf) hn hp hs r
theorem due_end {n : Nat} (h : At x n []) : Due px x (n, .sp, none) [] := by
  have e : n = x.length := h.len
  subst e
  exact .nil (.out (.stop (.spE h)) (by simp) (by cases px <;> rfl))
theorem due_eof {n : Nat} (h : n = x.length) : Due px x (n, .eof, none) [] := by
  subst h
  refine .nil ?_
  have t : Turn px x x.length .eof [] false .brk (x.length + (([] : List Nat).take 1).length) .eof [] false none := .eo ⟨by rw [List.drop_eq_nil_of_le (by rw [len_list]; exact Nat.le_refl _)], Nat.le_refl _⟩
  exact .out (.stop t) (by simp) (by cases px <;> rfl)
/-- one word and what follows -/
theorem due_one {n m k : Nat} {st : LS} {t : List Nat} {qd : Bool} {l : List (List Nat × Nat)} {q : Nat} (r : Run px x k n .sp [] false m st t qd none) (hz : t.length ≤ 100) (he : isEnd px (tokOut px qd t) = false) (hn : m = min x.length q) (hp : ∀ z ∈ l.head?, z.2 ≠ q) (hs : st = .sp ∨ st = .eof)
    (d : Due px x (m, st, none) l) : Due px x (n, .sp, none) ((t, q) :: l) := .cons (.new r hz he) hn (.inr ⟨rfl, hp⟩) hs d
theorem minL {n q : Nat} (h : q ≤ x.length) (e : n = q) : n = min x.length q := by omega
theorem minR {n q : Nat} (h : n = x.length) (e : n ≤ q) : n = min x.length q := by omega
theorem white (c : Nat) (h : c = 32 ∨ c = 10 ∨ c = 9) {n : Nat} {r : List Nat} {l : List (List Nat × Nat)} (hat : At x n (c :: r)) (d : Due px x (n + 1, .sp, none) l) : Due px x (n, .sp, none) l := d.more (.spW hat h) (.inr rfl)
theorem part_due {k : Nat} (h7 : k < 7) {n : Nat} {rem : List Nat} {ks : List Nat} (hat : At x n (partW k ++ rem)) (d : Due px x (n + (partW k).length, .sp, none) (dueOf px (n + (partW k).length) ks)) : Due px x (n, .sp, none) (dueOf px n (k :: ks)) := by
  have hl := hat.len
  have hh := dueHead (px := px) (ks := ks) (n := n + (partW k).length)
  have hk7 : k = 0 ∨ k = 1 ∨ k = 2 ∨ k = 3 ∨ k = 4 ∨ k = 5 ∨ k = 6 := by omega
  rcases hk7 with rfl | rfl | rfl | rfl | rfl | rfl | rfl
  · exact due_one (.more (.spD hat) (.inl rfl) (.stop (.wdW hat.tail (.inl rfl) rfl (by simp)))) (by simp) (by cases px <;> rfl) (minL (by simp [partW] at hl; omega) rfl) hh (.inl rfl) d
  · refine .cons (.new (.more (.spD hat) (.inl rfl) (.stop (.wdO hat.tail rfl (by simp)))) (by simp) (by cases px <;> rfl)) (minL (by simp [partW] at hl; omega) rfl) (.inl ⟨40, _, rfl, rfl⟩) (.inl rfl) ?_
    exact .cons .back (minL (by simp [partW] at hl; omega) rfl) (.inr ⟨rfl, hh⟩) (.inl rfl) d
  · cases px
    · refine due_one (q := n + 2) (.more (.spQ hat (.inl rfl)) (.inl rfl) (.stop (.qtB rfl hat.tail (.inl rfl) (by simp)))) (by simp) rfl (minL (by simp [partW] at hl; omega) rfl) (fun z hz => ?_) (.inl rfl) (white 32 (.inl rfl) hat.tail.tail d)
      have := dueOf_pos z (List.mem_of_mem_head? hz)
      simp [partW] at this
      omega
    · exact due_one (q := n + 3) (.more (.spQ hat (.inl rfl)) (.inl rfl) (.more (.qtW rfl hat.tail (.inl rfl) (by simp)) (.inl rfl) (.stop (.wdW hat.tail.tail (.inl rfl) rfl (by simp))))) (by simp) rfl (minL (by simp [partW] at hl; omega) rfl) hh (.inl rfl) d
  · cases px
    · refine due_one (q := n + 5) (.more (.spQ hat (.inr rfl)) (.inl rfl) (.more (.qtN hat.tail (.inr rfl) (.inl rfl) (by simp)) (.inl rfl) (.more (.qtN hat.tail.tail (.inr rfl) (.inr (.inl rfl)) (by simp)) (.inl rfl) (.more (.qtN hat.tail.tail.tail (.inr rfl) (.inr (.inr rfl)) (by simp)) (.inl rfl) (.stop (.qtB rfl hat.tail.tail.tail.tail (.inr rfl) (by simp))))))) (by simp) rfl (minL (by simp [partW] at hl; omega) rfl) (fun z hz => ?_) (.inl rfl) (white 10 (.inr (.inl rfl)) hat.tail.tail.tail.tail.tail d)
      have := dueOf_pos z (List.mem_of_mem_head? hz)
      simp [partW] at this
      omega
    · exact due_one (q := n + 6) (.more (.spQ hat (.inr rfl)) (.inl rfl) (.more (.qtN hat.tail (.inr rfl) (.inl rfl) (by simp)) (.inl rfl) (.more (.qtN hat.tail.tail (.inr rfl) (.inr (.inl rfl)) (by simp)) (.inl rfl) (.more (.qtN hat.tail.tail.tail (.inr rfl) (.inr (.inr rfl)) (by simp)) (.inl rfl) (.more (.qtW rfl hat.tail.tail.tail.tail (.inr rfl) (by simp)) (.inl rfl) (.stop (.wdW hat.tail.tail.tail.tail.tail (.inr (.inl rfl)) rfl (by simp)))))))) (by simp) rfl (minL (by simp [partW] at hl; omega) rfl) hh (.inl rfl) d
  · exact d.more (.spC hat (by decide) (by simp)) (.inl rfl)
  · refine due_one (q := n + 1) (.stop (.spO hat (.inl rfl))) (by simp) (by cases px <;> rfl) (minL (by simp [partW] at hl; omega) rfl) (by simp) (.inl rfl) ?_
    exact due_one (q := n + 2) (.stop (.spO hat.tail (.inr rfl))) (by simp) (by cases px <;> rfl) (minL (by simp [partW] at hl; omega) rfl) hh (.inl rfl) d
  · cases px
    · exact due_one (q := n + 5) (.more (.spD hat) (.inl rfl) (.more (.wdCn rfl hat.tail (by decide) (by simp) rfl (by simp)) (.inl rfl) (.stop (.wdW (hat.tail.tail.tail.tail) (.inr (.inr rfl)) rfl (by simp))))) (by simp) rfl (minL (by simp [partW] at hl; omega) rfl) hh (.inl rfl) d
    · refine due_one (q := n + 4) (.more (.spD hat) (.inl rfl) (.stop (.wdCp rfl hat.tail (by decide) (by simp) rfl (by simp)))) (by simp) rfl (minL (by simp [partW] at hl; omega) rfl) (fun z hz => ?_) (.inl rfl) (white 9 (.inr (.inr rfl)) hat.tail.tail.tail.tail d)
      have := dueOf_pos z (List.mem_of_mem_head? hz)
      simp [partW] at this
      omega
end
section
variable {px : Bool} {x : Str}
theorem part_cut {k : Nat} (h7 : k < 7) {n c : Nat} {rem : List Nat} (hc : c = 32 ∨ c = 10 ∨ c = 9) (e : partW k = rem ++ [c]) (hat : At x n rem) : Due px x (n, .sp, none) (dueOf px n [k]) := by
  have hr : rem = (partW k).dropLast := by rw [e, List.dropLast_concat]
  have hg : (partW k).getLast? = some c := by rw [e]; simp
  have hl := hat.len
  clear e
  subst hr
  have hk7 : k = 0 ∨ k = 1 ∨ k = 2 ∨ k = 3 ∨ k = 4 ∨ k = 5 ∨ k = 6 := by omega
  rcases hk7 with rfl | rfl | rfl | rfl | rfl | rfl | rfl
  · exact due_one (q := n + 2) (.more (.spD hat) (.inl rfl) (.stop (.wdE hat.tail))) (by simp) (by cases px <;> rfl) (minR (by simp [partW] at hl; omega) (by omega)) (fun _ hz => nomatch (show none = some _ from hz)) (.inr rfl) (due_eof (by simp [partW] at hl; omega))
  · simp [partW] at hg; omega
  · cases px
    · exact due_one (q := n + 2) (.more (.spQ hat (.inl rfl)) (.inl rfl) (.stop (.qtB rfl hat.tail (.inl rfl) (by simp)))) (by simp) rfl (minL (by simp [partW] at hl; omega) rfl) (fun _ hz => nomatch (show none = some _ from hz)) (.inl rfl) (due_end hat.tail.tail)
    · exact due_one (q := n + 3) (.more (.spQ hat (.inl rfl)) (.inl rfl) (.more (.qtW rfl hat.tail (.inl rfl) (by simp)) (.inl rfl) (.stop (.wdE hat.tail.tail)))) (by simp) rfl (minR (by simp [partW] at hl; omega) (by omega)) (fun _ hz => nomatch (show none = some _ from hz)) (.inr rfl) (due_eof (by simp [partW] at hl; omega))
  · cases px
    · exact due_one (q := n + 5) (.more (.spQ hat (.inr rfl)) (.inl rfl) (.more (.qtN hat.tail (.inr rfl) (.inl rfl) (by simp)) (.inl rfl) (.more (.qtN hat.tail.tail (.inr rfl) (.inr (.inl rfl)) (by simp)) (.inl rfl) (.more (.qtN hat.tail.tail.tail (.inr rfl) (.inr (.inr rfl)) (by simp)) (.inl rfl) (.stop (.qtB rfl hat.tail.tail.tail.tail (.inr rfl) (by simp))))))) (by simp) rfl (minL (by simp [partW] at hl; omega) rfl) (fun _ hz => nomatch (show none = some _ from hz)) (.inl rfl) (due_end hat.tail.tail.tail.tail.tail)
    · exact due_one (q := n + 6) (.more (.spQ hat (.inr rfl)) (.inl rfl) (.more (.qtN hat.tail (.inr rfl) (.inl rfl) (by simp)) (.inl rfl) (.more (.qtN hat.tail.tail (.inr rfl) (.inr (.inl rfl)) (by simp)) (.inl rfl) (.more (.qtN hat.tail.tail.tail (.inr rfl) (.inr (.inr rfl)) (by simp)) (.inl rfl) (.more (.qtW rfl hat.tail.tail.tail.tail (.inr rfl) (by simp)) (.inl rfl) (.stop (.wdE hat.tail.tail.tail.tail.tail))))))) (by simp) rfl (minR (by simp [partW] at hl; omega) (by omega)) (fun _ hz => nomatch (show none = some _ from hz)) (.inr rfl) (due_eof (by simp [partW] at hl; omega))
  · have h2 : At x (n + 1 + 1 + (([] : List Nat).take 1).length) [] := hat.tail.tail
    exact (due_end h2).more (.spC hat (by decide) (by simp)) (.inl rfl)
  · simp [partW] at hg; omega
  · cases px
    · exact due_one (q := n + 5) (.more (.spD hat) (.inl rfl) (.more (.wdCn rfl hat.tail (by decide) (by simp) rfl (by simp)) (.inl rfl) (.stop (.wdE (hat.tail.tail.tail.tail))))) (by simp) rfl (minR (by simp [partW] at hl; simp; omega) (by simp; try omega)) (fun _ hz => nomatch (show none = some _ from hz)) (.inr rfl) (due_eof (by simp [partW] at hl; simp; omega))
    · exact due_one (q := n + 4) (.more (.spD hat) (.inl rfl) (.stop (.wdCp rfl hat.tail (by decide) (by simp) rfl (by simp)))) (by simp) rfl (minL (by simp [partW] at hl; omega) (by simp; try omega)) (fun _ hz => nomatch (show none = some _ from hz)) (.inl rfl) (due_end hat.tail.tail.tail.tail)
theorem text_due : ∀ {ks : List Nat} {n : Nat}, (∀ k ∈ ks, k < 7) → At x n (txtOf ks) → Due px x (n, .sp, none) (dueOf px n ks)
  | [], _, _, hat => due_end hat
  | k :: r, n, h, hat => by
    have hat' : At x n (partW k ++ txtOf r) := hat
    exact part_due (h k (.head _)) hat' (text_due (fun z hz => h z (.tail _ hz)) hat'.more)
theorem partW_ne (k : Nat) : partW k ≠ [] := by
  match k with
  | 0 => exact nofun
  | 1 => exact nofun
  | 2 => exact nofun
  | 3 => exact nofun
  | 4 => exact nofun
  | 5 => exact nofun
  | _ + 6 => exact nofun
theorem txtOf_ne {k : Nat} {r : List Nat} : txtOf (k :: r) ≠ [] := fun h => partW_ne k (List.append_eq_nil_iff.mp (show partW k ++ txtOf r = [] from h)).1
theorem text_due_cut : ∀ {ks : List Nat} {n c : Nat} {rem : List Nat}, (∀ k ∈ ks, k < 7) → (c = 32 ∨ c = 10 ∨ c = 9) → txtOf ks = rem ++ [c] → At x n rem → Due px x (n, .sp, none) (dueOf px n ks)
  | [], _, _, rem, _, _, e, _ => by cases rem <;> exact nomatch e
  | [k], n, c, rem, h, hc, e, hat => part_cut (h k (.head _)) hc (by rw [← e]; simp [txtOf]) hat
  | k :: k' :: r, n, c, rem, h, hc, e, hat => by
    have e' : partW k ++ txtOf (k' :: r) = rem ++ [c] := e
    rcases List.eq_nil_or_concat (txtOf (k' :: r)) with z | ⟨r'', c', z⟩
    · exact absurd z txtOf_ne
    · rw [List.concat_eq_append] at z
      rw [z, ← List.append_assoc] at e'
      obtain ⟨e1, e2⟩ := List.append_inj' e' rfl
      cases e2
      subst e1
      exact part_due (h k (.head _)) hat (text_due_cut (fun z hz => h z (.tail _ hz)) hc z hat.more)
theorem Due.row {s : Nat × LS × Option Nat} {l : List (List Nat × Nat)} (d : Due px x s l) : GRow px x s (l.map (·.1)) (x.length, .eof, none) := by
  induction d with
  | nil g => exact .nil g
  | cons g _ _ _ _ ih => exact .cons g ih
def pbl : Option Nat → List (List Nat)
  | none => []
  | some c => [[c]]
theorem eofTok : GTok px x (x.length, .eof, none) none (x.length, .eof, none) := by
  cases due_eof (px := px) (x := x) rfl with
  | nil g => exact g
theorem endTok {st : LS} (hs : st = .sp ∨ st = .eof) : GTok px x (x.length, st, none) none (x.length, .eof, none) := by
  rcases hs with rfl | rfl
  · cases due_end (px := px) (x := x) (n := x.length) ⟨by rw [List.drop_eq_nil_of_le (by rw [len_list]; exact Nat.le_refl _)], Nat.le_refl _⟩ with
    | nil g => exact g
  · exact eofTok
theorem fin_row {st : LS} {pb : Option Nat} (hs : st = .sp ∨ st = .eof) : GRow px x (x.length, st, pb) (pbl pb) (x.length, .eof, none) := by
  cases pb with
  | none => exact .nil (endTok hs)
  | some c => exact .cons .back (.nil (endTok hs))
end
section
section
variable {α : Type} {a b q : α} {A B C : List α}
theorem subN : ∀ q ∈ ([] : List α), q ∈ B := fun _ h => nomatch h
theorem subC (h1 : a ∈ B) (h2 : ∀ q ∈ A, q ∈ B) : ∀ q ∈ a :: A, q ∈ B := fun q hq => (List.mem_cons.mp hq).elim (fun e => e ▸ h1) (h2 q)
theorem subR : ∀ q ∈ A, q ∈ A := fun _ h => h
theorem subT (h : ∀ q ∈ A, q ∈ B) : ∀ q ∈ A, q ∈ b :: B := fun q hq => .tail _ (h q hq)
theorem subL (h : ∀ q ∈ A, q ∈ B) : ∀ q ∈ A, q ∈ B ++ C := fun q hq => List.mem_append.mpr (.inl (h q hq))
theorem memEq (e : q = a) (h : a ∈ B) : q ∈ B := e ▸ h
theorem memIn (h : q ∈ A) (h2 : ∀ q ∈ A, q ∈ B) : q ∈ B := h2 q h
end
local macro_rules | `(tactic| walk_at "call ref") => `(tactic| ((with_reducible show wpAny _ _ (call (Value.ref 733) [Value.ref _]) _ _ _); k_dflt 
  (refine' law_digits ?hl ?hn ?hi ?B ?F ?X ?N ?T ?hk ?hd ?_; (case N => k_asm); (case hi => assumption); (case hl => first | assumption | (simp; omega)); (case hn => first | assumption | simp); (case B => k_asm); (case F => k_asm); (case X => k_asm); (case T => k_asm); (case hk => exact rfl); (case hd => ktr_room); intro D1 h1 k1 us1 ds1 c1 l1 F1 N1 hi1 hn1 hl1 hr1; (try k_lt l1); (try k_sweep))))
noncomputable abbrev lwA (lf : Addr) (lc : Value) (dp un : Nat) (gd : Option (List Code)) (L : Addr) (cl : List (Str × Addr)) : Around := ktrTop dp un gd (Str.ofString "law") ast_law.1.2.2 L lf lc cl []
noncomputable abbrev lwE (lf : Addr) (lc : Value) (L : Addr) (cl : List (Str × Addr)) : Env := envX (Str.ofString "law") ast_law.1.2.2 L lf lc cl
theorem newsSub {h₀ h : Heap} {L : Addr} {l l' : List (Addr × Obj)} (N : News h₀ L h l) (s : ∀ q ∈ l', q ∈ l) : News h₀ L h l' := fun q hq => N q (s q hq)
def PsIn (m : Str → Option Value) : List (Str × Value) → Prop
  | [] => True
  | q :: r => m q.1 = some q.2 ∧ PsIn m r
theorem PsIn.all {m : Str → Option Value} : ∀ {ps : List (Str × Value)}, PsIn m ps → ∀ q ∈ ps, m q.1 = some q.2
  | [], _, _, h => nomatch h
  | _ :: _, ⟨a, b⟩, q, hq => by
    rcases List.mem_cons.mp hq with rfl | hq
    · exact a
    · exact b.all q hq
theorem frPack {h₀ h : Heap} {L : Addr} {m : Str → Option Value} (F : Fr h₀ L h m) (ps : List (Str × Value)) (k : PsIn m ps) : Fr h₀ L h (kstB m ps) := by
  rw [kstB_self k.all]; exact F
theorem cell_eof {o : Obj} {px : Bool} {t : Tok} {v : Value} (h : o.data = .cell (some v)) (e : v = eofV px t) : o.data = .cell (some (eofV px t)) := e ▸ h
theorem newsSeg1 {h₀ h : Heap} {L : Addr} {a b x1 x2 x3 x4 x5 c d : Addr × Obj} (N : News h₀ L h [a, b, x1, x2, x3, x4, x5, c, d]) : News h₀ L h [a, b, c, d] := newsSub N (by (repeat' (first | (with_reducible exact subR) | (with_reducible exact subN) | (with_reducible refine subC ?_ ?_) | (with_reducible exact List.mem_cons_self) | (refine List.mem_cons_of_mem _ ?_) | (refine subT ?_) | (with_reducible refine subL ?_))))
theorem strEmpty : Str.ofString "" = S [] := by decide +kernel
section
variable {lf : Addr} {lc : Value} {prog : Program} {w : World} {p : Program} {loose : List Str} {mean : ExcName → Option Value} {mg mb : Str → Option Value} {dp un : Nat} {gd : Option (List Code)} {L : Addr} {A₀ : Around} {base h₀ : Heap} {sh : Heap} {sg : Array GenState} {sd : Drawn} {sk : Nat} {so : OsState} {E : Value → Shared → Prop} {cx ce : Addr}
theorem seg1 {ls : Addr} {svs : List Value} {ns : List Int} {u : Str → Option Value} {oX oE : Obj}
    (B : Below A₀ base [] h₀) (F : Fr h₀ L sh (kstB u [(Str.ofString "script", .ref ls)])) (X : (frag w.params).In h₀) (N : News h₀ L sh [(cx, oX), (ce, oE)]) (hE : oE.data = .cell none) (hne : @LT.lt Nat _ ce cx) (T : Top p loose mean mg mb h₀) (hl : h₀.IsList ls svs.toArray) (hi : IntsAre svs ns) (hn : ns.length ≤ 63) (hd : dp + 20 < recursionLimit)
    {Q : Flow → Shared → Prop} {rs : List Stmt}
    (hret : ∀ h' k u f tf px te tt dl us ds c dd oE', Fr h₀ L h' (kstB u [(Str.ofString "first", .int f tf), (Str.ofString "posix", .bool px), (Str.ofString "digits", .ref dl), (Str.ofString "text", .str (S []) tt), (Str.ofString "due", .ref dd)]) →
      News h₀ L h' [(dd, listOf #[] 0), (dl, listOf us.toArray c), (cx, oX), (ce, oE')] → oE'.data = .cell (some (eofV px te)) → IntsAre us ds → ds ≠ [] → ds.length ≤ 80 → (∀ d ∈ ds, 0 ≤ d ∧ d < 35) → @LT.lt Nat _ cx dl → @LT.lt Nat _ ce dl → @LT.lt Nat _ dl dd →
      wpAny (model prog w) (lwA lf lc dp un gd L [(Str.ofString "lex", cx), (Str.ofString "end", ce)]) (execs rs (lwE lf lc L [(Str.ofString "lex", cx), (Str.ofString "end", ce)])) Q E ⟨h', sg, sd, k, so⟩) :
    wpAny (model prog w) (lwA lf lc dp un gd L [(Str.ofString "lex", cx), (Str.ofString "end", ce)]) (execs (stmtAt ast_law.1.2.1 0 :: stmtAt ast_law.1.2.1 1 :: stmtAt ast_law.1.2.1 2 :: stmtAt ast_law.1.2.1 3 :: stmtAt ast_law.1.2.1 4 :: stmtAt ast_law.1.2.1 5 :: rs) (lwE lf lc L [(Str.ofString "lex", cx), (Str.ofString "end", ce)])) Q E ⟨sh, sg, sd, sk, so⟩ := by
  have hlen := IntsAre.length hi
  show wpAny _ _ (execs (.Assign _ _ _ :: .Assign _ _ _ :: .Assign _ _ _ :: .Assign _ _ _ :: .Assign _ _ _ :: .Assign _ _ _ :: rs) _) _ _ _
  k_steps
  · have e : (((ns ++ [0]).getD (Int.toNat 0) 0).fmod 2 == 0) = true := by rw [beq_iff_eq]; assumption
    rename Fr _ _ _ _ => F1
    rename News _ _ _ _ => N1
    rw [e, strEmpty] at F1
    exact hret _ _ _ _ _ true 0 _ _ _ _ _ _ _ (frPack F1 _ ⟨rfl, rfl, rfl, rfl, rfl, trivial⟩) (newsSeg1 N1) (by assumption) (by assumption) (by assumption) (by assumption) (by assumption) (by omega) (by omega) (by omega)
  · have e : (((ns ++ [0]).getD (Int.toNat 0) 0).fmod 2 == 0) = false := by rw [beq_eq_false_iff_ne]; assumption
    rename Fr _ _ _ _ => F1
    rename News _ _ _ _ => N1
    rw [e, strEmpty] at F1
    exact hret _ _ _ _ _ false _ _ _ _ _ _ _ _ (frPack F1 _ ⟨rfl, rfl, rfl, rfl, rfl, trivial⟩) (newsSeg1 N1) (by assumption) (by assumption) (by assumption) (by assumption) (by assumption) (by omega) (by omega) (by omega)
end
end
noncomputable def l1P : Expr × List Stmt := forParts (stmtAt ast_law.1.2.1 6)
noncomputable def l1I : Expr × List Stmt := forParts (stmtAt l1P.2 1)
abbrev tupO (vs : List Value) : Obj := { cls := .type "tuple", data := .seq vs.toArray }
section
variable {lf : Addr} {lc : Value} {prog : Program} {w : World} {p : Program} {loose : List Str} {mean : ExcName → Option Value} {mg mb : Str → Option Value} {dp un : Nat} {gd : Option (List Code)} {cn : Str} {cs : Scope} {a : Addr} {ccd : Value} {cl : List (Str × Addr)} {outer : List Env} {A₀ : Around} {base h₀ : Heap} {L : Addr} {m : Str → Option Value} {sh : Heap} {sg : Array GenState} {sd : Drawn} {sk : Nat} {so : OsState} {Q E : Value → Shared → Prop} {news : List (Addr × Obj)}
theorem law_partZ {t : Tok} {px : Bool} {K : Int} (h0 : 0 ≤ K) (h7 : K < 7)
    (B : Below A₀ base outer h₀) (F : Fr h₀ L sh m) (X : (frag w.params).In h₀) (N : News h₀ L sh news) (T : Top p loose mean mg mb h₀) (hk : cs.kind = .function) (hd : dp + 4 < recursionLimit)
    (hret : ∀ r tl h' tk', Fr h₀ L h' m → News h₀ L h' (tl ++ news) → (∀ q ∈ news, ∀ p ∈ tl, q.1 < p.1) → DatIn tl r (partD px K.toNat) → Q r ⟨h', sg, sd, tk', so⟩) :
    wpAny (model prog w) (ktrTop dp un gd cn cs L a ccd cl outer) (call (.ref 740) [.int K t, .bool px]) Q E ⟨sh, sg, sd, sk, so⟩ := by
  have e : K = (K.toNat : Int) := by omega
  rw [e]
  exact law_part (by omega) B F X N T hk hd fun r tl h' tk' F' N' l' D' => hret r tl h' tk' F' N' l' D'
end
theorem newsSwap {h₀ h : Heap} {L : Addr} {a b : Addr × Obj} {r : List (Addr × Obj)} (N : News h₀ L h (a :: b :: r)) : News h₀ L h (b :: a :: r) := fun q hq => N q (by
  simp only [List.mem_cons] at hq ⊢
  rcases hq with h | h | h
  · exact .inr (.inl h)
  · exact .inl h
  · exact .inr (.inr h))
section
variable {lf : Addr} {lc : Value} {prog : Program} {w : World} {p : Program} {loose : List Str} {mean : ExcName → Option Value} {mg mb : Str → Option Value} {dp un : Nat} {gd : Option (List Code)} {L : Addr} {A₀ : Around} {base h₀ : Heap} {sh : Heap} {sg : Array GenState} {sd : Drawn} {sk : Nat} {so : OsState} {E : Value → Shared → Prop} {cl : List (Str × Addr)} {rest : List (Addr × Obj)}
theorem l1_body {tv : Value} {b : Int} {tb tt : Tok} {dd : Addr} {dus : List Value} {c : Nat} {tx : Str} {u : Str → Option Value}
    (F : Fr h₀ L sh (kstB u [(Str.ofString "token", tv), (Str.ofString "behind", .int b tb), (Str.ofString "text", .str tx tt), (Str.ofString "due", .ref dd)])) (X : (frag w.params).In h₀) (N : News h₀ L sh ((dd, listOf dus.toArray c) :: rest)) (off : OwnOff rest [dd])
    (hz : dus.length ≤ 200) (hzt : tx.length ≤ 1000) (hv : handedIn tv = true) (T : Top p loose mean mg mb h₀)
    {Q : Flow → Shared → Prop}
    (hq : ∀ h' k T2 tn c', Fr h₀ L h' (kstB u [(Str.ofString "token", tv), (Str.ofString "behind", .int b tb), (Str.ofString "text", .str tx tt), (Str.ofString "due", .ref dd)]) → News h₀ L h' ((dd, listOf (dus ++ [Value.ref T2]).toArray c') :: (T2, tupO [tv, .int ((tx.length : Int) + b) tn]) :: rest) → (∀ q ∈ (dd, listOf dus.toArray c) :: rest, @LT.lt Nat _ q.1 T2) → Q .next ⟨h', sg, sd, k, so⟩) :
    wpAny (model prog w) (lwA lf lc dp un gd L cl) (execs l1I.2 (lwE lf lc L cl)) Q E ⟨sh, sg, sd, sk, so⟩ := by
  show wpAny _ _ (execs [.Expr _ _] _) _ _ _
  k_steps
  rename News _ _ _ _ => NN
  rw [List.push_toArray] at NN
  exact hq _ _ _ _ _ (by assumption) (newsSwap NN) (by
    rename (@LT.lt Nat _ dd _ ∧ AllLt _ rest) => l1
    intro q hq
    rcases List.mem_cons.mp hq with rfl | hq
    · exact l1.1
    · exact allLt_to l1.2 q hq)
noncomputable def forTarget : Stmt → Expr
  | .For t _ _ _ _ => t
  | _ => default
theorem asg {tv x : Value} {T : Addr} {m : Str → Option Value} {n : Nat} {news : List (Addr × Obj)} (F : Fr h₀ L sh m) (N : News h₀ L sh news) (hT : (T, ({ cls := .type "tuple", data := .seq #[tv, x] n } : Obj)) ∈ news)
    {Q : Unit → Shared → Prop} (hq : ∀ h' k, Fr h₀ L h' (fun z => if z = Str.ofString "behind" then some x else if z = Str.ofString "token" then some tv else m z) → News h₀ L h' news → Q () ⟨h', sg, sd, k, so⟩) :
    wpAny (model prog w) (lwA lf lc dp un gd L cl) (assign (forTarget (stmtAt l1P.2 1)) (lwE lf lc L cl) (.ref T)) Q E ⟨sh, sg, sd, sk, so⟩ := by
  show wpAny _ _ (assign (.Tuple [.Name (Str.ofString "token") _, .Name (Str.ofString "behind") _] _ _) _ _) _ _ _
  refine kcp_assign (m := m) rfl ⟨_, (N _ hT).1, rfl, n, rfl⟩ rfl rfl rfl F.ns fun h' tk hns hk => hq h' tk ⟨hns, fun b o e => hk b o (fun z => ?_) (F.keep b o e), F.above⟩ fun q hq => ⟨hk _ _ (N q hq).2.1 (N q hq).1, (N q hq).2⟩
  exact absurd (Heap.lt_size e) (by rw [z]; exact Nat.not_lt.mpr F.above)
end
section
variable {lf : Addr} {lc : Value} {prog : Program} {w : World} {p : Program} {loose : List Str} {mean : ExcName → Option Value} {mg mb : Str → Option Value} {dp un : Nat} {gd : Option (List Code)} {L : Addr} {A₀ : Around} {base h₀ : Heap} {sh : Heap} {sg : Array GenState} {sd : Drawn} {sk : Nat} {so : OsState} {E : Value → Shared → Prop} {cl : List (Str × Addr)} {rest : List (Addr × Obj)}
/-- the tokens of one part, put into the row of the due -/
theorem l1_rest {I dd ta : Addr} {lo : Obj} {A0 fx : List (Addr × Obj)} {tx : Str} {tt : Tok} {ps : List (Str × Value)} {s : Shared}
    (X : (frag w.params).In h₀) (T : Top p loose mean mg mb h₀) (hkeep : (ta, lo) ∈ fx) (hA0 : ∀ q ∈ A0, q ∈ fx) (lt : ∀ q ∈ fx, @LT.lt Nat _ q.1 I) (off : OwnOff fx [dd]) (ltd : @LT.lt Nat _ dd I) (hzt : tx.length ≤ 1000)
    (hps : ∀ q ∈ ps, q.1 ≠ Str.ofString "token" ∧ q.1 ≠ Str.ofString "behind") (h1 : (Str.ofString "text", Value.str tx tt) ∈ ps) (h2 : (Str.ofString "due", Value.ref dd) ∈ ps) {Q : Flow → Shared → Prop} :
    ∀ {zs : List (List Nat × Nat)} {vs dus : List Value} {c : Nat} {m : Str → Option Value} {add : List (Addr × Obj)}, DatAll A0 vs (zs.map tokD) → dus.length + zs.length ≤ 200 → (∀ q ∈ ps, m q.1 = some q.2) → (∀ q ∈ add, @LT.lt Nat _ I q.1) →
    (∀ h tk m' nv c' add', DatAll add' nv (zs.map fun z => tokD (z.1, tx.length + z.2)) → Fr h₀ L h m' → (∀ q ∈ ps, m' q.1 = some q.2) → News h₀ L h ((dd, listOf (dus ++ nv).toArray c') :: (add' ++ (add ++ fx))) → (∀ q ∈ add', @LT.lt Nat _ I q.1) → Q .next { s with heap := h, toks := tk }) →
    ItemsRest prog w (lwA lf lc dp un gd L cl) E h₀ (lwE lf lc L cl) (forTarget (stmtAt l1P.2 1)) l1I.2 Q s [(I, "list_iterator")] [(ta, lo)] (vs.map .val) m ((dd, listOf dus.toArray c) :: (add ++ fx)) := by
  obtain ⟨sh, sg, sd, sk, so⟩ := s
  intro zs
  induction zs with
  | nil =>
    intro vs dus c m add hA hz hm la fin
    cases hA
    refine ItemsRest.zero fun h tk F N => fin h tk m [] c [] .nil F hm (by rw [List.append_nil]; exact N) (fun _ h => nomatch h)
  | cons z zs ih =>
    intro vs dus c m add hA hz hm la fin
    cases hA with
    | @cons v vs' _ _ hv hr =>
      cases hv with
      | @tuple a vs2 n _ hmem hd2 =>
        cases hd2 with
        | cons e1 r1 =>
          cases e1 with
          | str _ t1 =>
            cases r1 with
            | cons e2 r2 =>
              cases e2 with
              | int _ t2 =>
                cases r2
                refine ItemsRest.val (fun h tk F => AllObj.cons fun o ho => AllObj.nil fun N => ?_)
                rw [List.length_cons] at hz
                refine asg F N (List.mem_append.mpr (.inr (List.mem_cons_of_mem _ (List.mem_append.mpr (.inr (hA0 _ hmem)))))) fun h' k F' N' => ?_
                have N1 : News h₀ L h' ((dd, listOf dus.toArray c) :: (I, o) :: (add ++ fx)) := newsSwap N'
                have off1 : OwnOff ((I, o) :: (add ++ fx)) [dd] := by
                  refine offCons (fun b hb => ?_) ?_
                  · rw [List.mem_singleton.mp hb]; exact neN (Nat.ne_of_gt ltd)
                  · intro q hq b hb
                    rw [List.mem_singleton.mp hb]
                    rcases List.mem_append.mp hq with hq | hq
                    · exact neN (Nat.ne_of_gt (Nat.lt_trans ltd (la q hq)))
                    · exact off q hq dd (.head _)
                generalize hg : (fun y => if y = Str.ofString "behind" then some (Value.int z.2 t2) else if y = Str.ofString "token" then some (Value.str (S z.1) t1) else m y) = m1 at F'
                have hm' : ∀ q ∈ ps, m1 q.1 = some q.2 := fun q hq => by
                  rw [← hg]
                  show (if q.1 = Str.ofString "behind" then _ else if q.1 = Str.ofString "token" then _ else m q.1) = _
                  rw [if_neg (hps q hq).2, if_neg (hps q hq).1]
                  exact hm q hq
                have hb : ∀ q ∈ [(Str.ofString "token", Value.str (S z.1) t1), (Str.ofString "behind", .int z.2 t2), (Str.ofString "text", .str tx tt), (Str.ofString "due", .ref dd)], m1 q.1 = some q.2 := fun q hq => by
                  simp only [List.mem_cons, List.not_mem_nil, or_false] at hq
                  rcases hq with rfl | rfl | rfl | rfl
                  · rw [← hg]
                    show (if Str.ofString "token" = Str.ofString "behind" then _ else if Str.ofString "token" = Str.ofString "token" then _ else m _) = _
                    rw [if_neg (by decide +kernel), if_pos rfl]
                  · rw [← hg]
                    show (if Str.ofString "behind" = Str.ofString "behind" then _ else _) = _
                    rw [if_pos rfl]
                  · exact hm' _ h1
                  · exact hm' _ h2
                refine l1_body ((kstB_self hb).symm ▸ F') X N1 off1 (by omega) hzt rfl T fun h2 k2 T2 tn c2 F2 N2 lt2 => ?_
                rw [kstB_self hb] at F2
                have ltI : @LT.lt Nat _ I T2 := lt2 (I, o) (.tail _ (.head _))
                refine ⟨h2, k2, _, (dd, listOf (dus ++ [Value.ref T2]).toArray c2) :: (((T2, tupO [Value.str (S z.1) t1, .int ((tx.length : Int) + z.2) tn]) :: add) ++ fx), rfl, F2, newsSub N2 (fun q hq => ?_), fun q hq q' hq' => ?_, ⟨List.mem_cons_of_mem _ (List.mem_append.mpr (.inr hkeep)), trivial⟩, ih hr (by rw [List.length_append, List.length_singleton]; omega) hm' (fun q hq => ?_) fun h3 tk3 m3 nv3 c3 add3 hA3 F3 hm3 N3 la3 => ?_⟩
                · simp only [List.mem_append, List.mem_cons, List.not_mem_nil, or_false] at hq ⊢
                  rcases hq with h | h | (h | h) | h
                  · exact .inr (.inr (.inl h))
                  · exact .inl h
                  · exact .inr (.inl h)
                  · exact .inr (.inr (.inr (.inl h)))
                  · exact .inr (.inr (.inr (.inr h)))
                · rw [List.mem_singleton.mp hq']
                  simp only [List.mem_append, List.mem_cons] at hq
                  rcases hq with rfl | (rfl | h) | h
                  · exact neN (Nat.ne_of_lt ltd)
                  · exact neN (Nat.ne_of_gt ltI)
                  · exact neN (Nat.ne_of_gt (la q h))
                  · exact neN (Nat.ne_of_lt (lt q h))
                · rcases List.mem_cons.mp hq with rfl | hq
                  · exact ltI
                  · exact la q hq
                · refine fin h3 tk3 m3 (.ref T2 :: nv3) c3 (add3 ++ [(T2, tupO [Value.str (S z.1) t1, .int ((tx.length : Int) + z.2) tn])]) ?_ F3 hm3 ?_ fun q hq => ?_
                  · refine .cons (.tuple (List.mem_append.mpr (.inr (.head _))) (.cons (.str _ _) (.cons (.int _ _) .nil))) (hA3.mono fun q hq => List.mem_append.mpr (.inl hq))
                  · have e1 : dus ++ [Value.ref T2] ++ nv3 = dus ++ (.ref T2 :: nv3) := by simp
                    rw [e1] at N3
                    refine newsSub N3 fun q hq => ?_
                    simp only [List.mem_append, List.mem_cons, List.not_mem_nil, or_false] at hq ⊢
                    rcases hq with h | (h | h) | h | h
                    · exact .inl h
                    · exact .inr (.inl h)
                    · exact .inr (.inr (.inl (.inl h)))
                    · exact .inr (.inr (.inl (.inr h)))
                    · exact .inr (.inr (.inr h))
                  · rcases List.mem_append.mp hq with hq | hq
                    · exact la3 q hq
                    · rw [List.mem_singleton.mp hq]; exact ltI
end
section
local macro_rules | `(tactic| walk_at "call ref") => `(tactic| ((with_reducible show wpAny _ _ (call (Value.ref 740) _) _ _ _); k_dflt 
  (refine' law_partZ ?h0 ?h7 ?B ?F ?X ?N ?T ?hk ?hd ?_; (case h0 => assumption); (case h7 => assumption); (case N => k_asm); (case B => k_asm); (case F => k_asm); (case X => k_asm); (case T => k_asm); (case hk => exact rfl); (case hd => ktr_room); intro r1 tl1 h1 k1 F1 N1 l1 D1)))
section
variable {lf : Addr} {lc : Value} {prog : Program} {w : World} {p : Program} {loose : List Str} {mean : ExcName → Option Value} {mg mb : Str → Option Value} {dp un : Nat} {gd : Option (List Code)} {L : Addr} {A₀ : Around} {base h₀ : Heap} {sh : Heap} {sg : Array GenState} {sd : Drawn} {sk : Nat} {so : OsState} {E : Value → Shared → Prop} {cl : List (Str × Addr)} {rest : List (Addr × Obj)}
theorem asgN {x y : Str} {tv xv : Value} {T : Addr} {m : Str → Option Value} {n : Nat} {news : List (Addr × Obj)} {px py tp : Pos} {kk : Nat} (F : Fr h₀ L sh m) (N : News h₀ L sh news) (hT : (T, ({ cls := .type "tuple", data := .seq #[tv, xv] n } : Obj)) ∈ news)
    (hx : (lwE lf lc L cl).kindOf x = some .local) (hy : (lwE lf lc L cl).kindOf y = some .local) {Q : Unit → Shared → Prop} (hq : ∀ h' k, Fr h₀ L h' (fun z => if z = y then some xv else if z = x then some tv else m z) → News h₀ L h' news → Q () ⟨h', sg, sd, k, so⟩) :
    wpAny (model prog w) (lwA lf lc dp un gd L cl) (assign (.Tuple [.Name x px, .Name y py] kk tp) (lwE lf lc L cl) (.ref T)) Q E ⟨sh, sg, sd, sk, so⟩ := by
  refine kcp_assign (m := m) rfl ⟨_, (N _ hT).1, rfl, n, rfl⟩ hx hy rfl F.ns fun h' tk hns hk => hq h' tk ⟨hns, fun b o e => hk b o (fun z => ?_) (F.keep b o e), F.above⟩ fun q hq => ⟨hk _ _ (N q hq).2.1 (N q hq).1, (N q hq).2⟩
  exact absurd (Heap.lt_size e) (by rw [z]; exact Nat.not_lt.mpr F.above)
theorem l1_s0 {n : Int} {td : Tok} {px : Bool} {u : Str → Option Value} {news : List (Addr × Obj)}
    (B : Below A₀ base [] h₀) (F : Fr h₀ L sh (kstB u [(Str.ofString "d", .int n td), (Str.ofString "posix", .bool px)])) (X : (frag w.params).In h₀) (N : News h₀ L sh news) (T : Top p loose mean mg mb h₀)
    (hd : dp + 20 < recursionLimit) {Q : Flow → Shared → Prop}
    (hq : ∀ h' k tl vw vt, Fr h₀ L h' (fun z => if z = Str.ofString "tokens" then some vt else if z = Str.ofString "written" then some vw else kstB u [(Str.ofString "d", .int n td), (Str.ofString "posix", .bool px)] z) → News h₀ L h' (tl ++ news) → (∀ q ∈ news, ∀ p ∈ tl, @LT.lt Nat _ q.1 p.1) →
      DatIn tl vw (.str (S (partW (n.fmod 7).toNat))) → DatIn tl vt (.list ((partT px (n.fmod 7).toNat).map tokD)) → Q .next ⟨h', sg, sd, k, so⟩) :
    wpAny (model prog w) (lwA lf lc dp un gd L cl) (exec (stmtAt l1P.2 0) (lwE lf lc L cl)) Q E ⟨sh, sg, sd, sk, so⟩ := by
  have hb := (fdiv_fmod_facts n 7).2.2.1 (by decide)
  have hb0 := hb.1
  have hb1 := hb.2
  show wpAny _ _ (exec (.Assign _ _ _) _) _ _ _
  k_steps
  rename DatIn _ _ _ => D1
  cases D1 with
  | @tuple a vs n _ hmem hd2 =>
    cases hd2 with
    | @cons vw vs _ _ e1 r1 =>
      cases r1 with
      | @cons vt vs _ _ e2 r2 =>
        cases r2
        exact asgN (by assumption) (by assumption) (List.mem_append.mpr (.inl hmem)) rfl rfl fun h' k F' N' => hq h' k _ _ _ F' N' (by assumption) e1 e2
theorem l1_s2 {tx wx : Str} {tt tw : Tok} {u : Str → Option Value} {news : List (Addr × Obj)}
    (F : Fr h₀ L sh (kstB u [(Str.ofString "written", .str wx tw), (Str.ofString "text", .str tx tt)])) (N : News h₀ L sh news) (X : (frag w.params).In h₀) (hz : tx.length ≤ 1000) (hzw : wx.length ≤ 100)
    {Q : Flow → Shared → Prop}
    (hq : ∀ h' k t', Fr h₀ L h' (fun z => if z = Str.ofString "text" then some (.str (tx ++ wx) t') else kstB u [(Str.ofString "written", .str wx tw), (Str.ofString "text", .str tx tt)] z) → News h₀ L h' news → Q .next ⟨h', sg, sd, k, so⟩) :
    wpAny (model prog w) (lwA lf lc dp un gd L cl) (exec (stmtAt l1P.2 2) (lwE lf lc L cl)) Q E ⟨sh, sg, sd, sk, so⟩ := by
  show wpAny _ _ (exec (.AugAssign _ _ _ _) _) _ _ _
  k_steps
  refine wpAny_loadName_local rfl rfl F.ns rfl ?_
  k_steps
  exact hq _ _ _ (by assumption) (by assumption)
theorem partW_len (k : Nat) : (partW k).length ≤ 6 := by
  match k with
  | 0 => decide
  | 1 => decide
  | 2 => decide
  | 3 => decide
  | 4 => decide
  | 5 => decide
  | _ + 6 => exact Nat.le_of_ble_eq_true rfl
theorem partT_len (px : Bool) (k : Nat) : (partT px k).length ≤ 2 := by
  match k, px with
  | 0, _ => exact Nat.le_of_ble_eq_true rfl
  | 1, _ => exact Nat.le_of_ble_eq_true rfl
  | 2, true => exact Nat.le_of_ble_eq_true rfl
  | 2, false => exact Nat.le_of_ble_eq_true rfl
  | 3, true => exact Nat.le_of_ble_eq_true rfl
  | 3, false => exact Nat.le_of_ble_eq_true rfl
  | 4, _ => exact Nat.le_of_ble_eq_true rfl
  | 5, _ => exact Nat.le_of_ble_eq_true rfl
  | _ + 6, true => exact Nat.le_of_ble_eq_true rfl
  | _ + 6, false => exact Nat.le_of_ble_eq_true rfl
abbrev l1ps (px : Bool) (tx : Str) (tt : Tok) (dd dl : Addr) (f : Int) (tf : Tok) : List (Str × Value) := [(Str.ofString "posix", .bool px), (Str.ofString "text", .str tx tt), (Str.ofString "due", .ref dd), (Str.ofString "digits", .ref dl), (Str.ofString "first", .int f tf)]
theorem l1_turn {n f : Int} {td tt tf : Tok} {px : Bool} {dd dl : Addr} {dus : List Value} {c : Nat} {tx : Str} {m : Str → Option Value}
    (B : Below A₀ base [] h₀) (F : Fr h₀ L sh m) (hd0 : m (Str.ofString "d") = some (.int n td)) (hm : ∀ q ∈ l1ps px tx tt dd dl f tf, m q.1 = some q.2) (X : (frag w.params).In h₀) (N : News h₀ L sh ((dd, listOf dus.toArray c) :: rest)) (off : OwnOff rest [dd]) (T : Top p loose mean mg mb h₀)
    (hz : dus.length ≤ 190) (hzt : tx.length ≤ 900) (hd : dp + 20 < recursionLimit)
    {Q : Flow → Shared → Prop}
    (hq : ∀ h' k m' nv c' add tt', Fr h₀ L h' m' → (∀ q ∈ l1ps px (tx ++ S (partW (n.fmod 7).toNat)) tt' dd dl f tf, m' q.1 = some q.2) → DatAll add nv ((partT px (n.fmod 7).toNat).map fun z => tokD (z.1, tx.length + z.2)) → News h₀ L h' ((dd, listOf (dus ++ nv).toArray c') :: (add ++ rest)) →
      (∀ q ∈ rest, ∀ z ∈ add, @LT.lt Nat _ q.1 z.1) → (∀ z ∈ add, @LT.lt Nat _ dd z.1) → Q .next ⟨h', sg, sd, k, so⟩) (hE : PassesOwn (model prog w) (lwA lf lc dp un gd L cl) (lwE lf lc L cl) E := by passes_own) :
    wpAny (model prog w) (lwA lf lc dp un gd L cl) (execs l1P.2 (lwE lf lc L cl)) Q E ⟨sh, sg, sd, sk, so⟩ := by
  show wpAny _ _ (execs [stmtAt l1P.2 0, .For (forTarget (stmtAt l1P.2 1)) (.Name (Str.ofString "tokens") _) l1I.2 [] _, stmtAt l1P.2 2] _) _ _ _
  have e0 := kstB_self (m := m) (ps := [(Str.ofString "d", .int n td), (Str.ofString "posix", .bool px)]) (by
    intro q hq
    rcases List.mem_cons.mp hq with rfl | hq
    · exact hd0
    · rw [List.mem_singleton.mp hq]; exact hm _ (.head _))
  refine wpAny_execs_cons (l1_s0 B (e0.symm ▸ F) X N T hd fun h1 k1 tl vw vt F1 N1 lt1 e1 e2 => ?_)
  rw [e0] at F1
  cases e1 with
  | str _ tw =>
    cases e2 with
    | @list ta vs nl _ hmem hA =>
      generalize hg : (fun z => if z = Str.ofString "tokens" then some (Value.ref ta) else if z = Str.ofString "written" then some (Value.str (S (partW (n.fmod 7).toNat)) tw) else m z) = m1 at F1
      have hother : ∀ x : Str, x ≠ Str.ofString "tokens" → x ≠ Str.ofString "written" → m1 x = m x := fun x h1 h2 => by
        rw [← hg]
        show (if x = Str.ofString "tokens" then _ else if x = Str.ofString "written" then _ else m x) = _
        rw [if_neg h1, if_neg h2]
      have htok : m1 (Str.ofString "tokens") = some (.ref ta) := by rw [← hg]; exact if_pos rfl
      have hwr : m1 (Str.ofString "written") = some (.str (S (partW (n.fmod 7).toNat)) tw) := by
        rw [← hg]
        show (if Str.ofString "written" = Str.ofString "tokens" then _ else if Str.ofString "written" = Str.ofString "written" then _ else _) = _
        rw [if_neg (by decide +kernel), if_pos rfl]
      have hm1 : ∀ q ∈ (Str.ofString "written", Value.str (S (partW (n.fmod 7).toNat)) tw) :: l1ps px tx tt dd dl f tf, m1 q.1 = some q.2 := fun q hq => by
        rcases List.mem_cons.mp hq with rfl | hq
        · exact hwr
        · have hne : q.1 ≠ Str.ofString "tokens" ∧ q.1 ≠ Str.ofString "written" := by
            simp only [List.mem_cons, List.not_mem_nil, or_false] at hq
            rcases hq with rfl | rfl | rfl | rfl | rfl <;> exact ⟨by dsimp only; decide +kernel, by dsimp only; decide +kernel⟩
          rw [hother _ hne.1 hne.2]
          exact hm q hq
      have N1' : News h₀ L h1 ((dd, listOf dus.toArray c) :: ([] ++ (tl ++ rest))) := newsSub N1 fun q hq => by
        simp only [List.nil_append, List.mem_cons, List.mem_append] at hq ⊢
        rcases hq with h | h | h
        · exact .inr (.inl h)
        · exact .inl h
        · exact .inr (.inr h)
      have offx : OwnOff (tl ++ rest) [dd] := fun q hq b hb => by
        rcases List.mem_append.mp hq with hq | hq
        · rw [List.mem_singleton.mp hb]
          exact neN (Nat.ne_of_gt (lt1 (dd, listOf dus.toArray c) (.head _) q hq))
        · exact off q hq b hb
      refine wpAny_execs_cons (For_turns F1 (nameX_L F1 htok ?_))
      refine iter_listTurns rfl F1 N1' (List.mem_cons_of_mem _ (List.mem_append.mpr (.inr (List.mem_append.mpr (.inl hmem))))) rfl rfl fun I ltI => ?_
      refine l1_rest (ps := (Str.ofString "written", Value.str (S (partW (n.fmod 7).toNat)) tw) :: l1ps px tx tt dd dl f tf) X T (List.mem_append.mpr (.inl hmem)) (fun q hq => List.mem_append.mpr (.inl hq)) (fun q hq => ltI q (List.mem_cons_of_mem _ (List.mem_append.mpr (.inr hq)))) offx (ltI _ (.head _)) (Nat.le_trans hzt (by decide)) (fun q hq => ?_) (.tail _ (.tail _ (.head _))) (.tail _ (.tail _ (.tail _ (.head _)))) hA
        (by have := partT_len px (n.fmod 7).toNat; omega) hm1 (fun _ h => nomatch h) fun h2 tk2 m2 nv c2 add2 hA2 F2 hm2 N2 la2 => ?_
      · simp only [List.mem_cons, List.not_mem_nil, or_false] at hq
        rcases hq with rfl | rfl | rfl | rfl | rfl | rfl <;> exact ⟨by dsimp only; decide +kernel, by dsimp only; decide +kernel⟩
      · have e2 := kstB_self (m := m2) (ps := [(Str.ofString "written", .str (S (partW (n.fmod 7).toNat)) tw), (Str.ofString "text", .str tx tt)]) (by
          intro q hq
          rcases List.mem_cons.mp hq with rfl | hq
          · exact hm2 _ (.head _)
          · rw [List.mem_singleton.mp hq]; exact hm2 _ (by simp))
        refine wpAny_execs_cons (l1_s2 (e2.symm ▸ F2) N2 X (by omega) (by rw [S_len]; have := partW_len (n.fmod 7).toNat; omega) fun h3 k3 t3 F3 N3 => wpAny_execs_nil ?_)
        rw [e2] at F3
        refine hq h3 k3 _ nv c2 add2 t3 F3 (fun q hq => ?_) hA2 (newsSub N3 fun q hq => ?_) (fun q hq z hz => Nat.lt_trans (ltI q (List.mem_cons_of_mem _ (List.mem_append.mpr (.inr (List.mem_append.mpr (.inr hq)))))) (la2 z hz)) (fun z hz => Nat.lt_trans (ltI _ (.head _)) (la2 z hz))
        · show (if q.1 = Str.ofString "text" then _ else m2 q.1) = _
          simp only [List.mem_cons, List.not_mem_nil, or_false] at hq
          rcases hq with rfl | rfl | rfl | rfl | rfl
          · rw [if_neg (by dsimp only; decide +kernel)]; exact hm2 _ (by simp)
          · rw [if_pos rfl]
          · rw [if_neg (by dsimp only; decide +kernel)]; exact hm2 _ (by simp)
          · rw [if_neg (by dsimp only; decide +kernel)]; exact hm2 _ (by simp)
          · rw [if_neg (by dsimp only; decide +kernel)]; exact hm2 _ (by simp)
        · simp only [List.mem_cons, List.mem_append, List.nil_append] at hq ⊢
          rcases hq with h | h | h
          · exact .inl h
          · exact .inr (.inl h)
          · exact .inr (.inr (.inr h))
end
end
theorem txtOf_snoc (ks : List Nat) (k : Nat) : txtOf (ks ++ [k]) = txtOf ks ++ partW k := by simp [txtOf]
theorem dueOf_snoc (px : Bool) : ∀ (ks : List Nat) (n k : Nat), dueOf px n (ks ++ [k]) = dueOf px n ks ++ (partT px k).map fun z => (z.1, n + (txtOf ks).length + z.2)
  | [], n, k => by simp [dueOf, txtOf]
  | j :: r, n, k => by
    show (partT px j).map _ ++ dueOf px (n + (partW j).length) (r ++ [k]) = ((partT px j).map _ ++ dueOf px (n + (partW j).length) r) ++ _
    rw [dueOf_snoc px r, List.append_assoc]
    congr 2
    apply List.map_congr_left
    intro z _
    have : (txtOf (j :: r)).length = (partW j).length + (txtOf r).length := by simp [txtOf]
    rw [this, Nat.add_assoc n]
theorem txtOf_len : ∀ ks : List Nat, (txtOf ks).length ≤ 6 * ks.length
  | [] => Nat.le_refl _
  | k :: r => by
    have h1 : (txtOf (k :: r)).length = (partW k).length + (txtOf r).length := by simp [txtOf]
    have h2 := txtOf_len r
    have h3 := partW_len k
    rw [h1, List.length_cons]; omega
theorem dueOf_len (px : Bool) : ∀ (ks : List Nat) (n : Nat), (dueOf px n ks).length ≤ 2 * ks.length
  | [], _ => Nat.le_refl _
  | k :: r, n => by
    have h1 : (dueOf px n (k :: r)).length = (partT px k).length + (dueOf px (n + (partW k).length) r).length := by simp [dueOf]
    have h2 := dueOf_len px r (n + (partW k).length)
    have h3 := partT_len px k
    rw [h1, List.length_cons]; omega
abbrev ksOf (ds : List Int) : List Nat := ds.map fun d => (d.fmod 7).toNat
section
variable {lf : Addr} {lc : Value} {prog : Program} {w : World} {p : Program} {loose : List Str} {mean : ExcName → Option Value} {mg mb : Str → Option Value} {dp un : Nat} {gd : Option (List Code)} {L : Addr} {A₀ : Around} {base h₀ : Heap} {sh : Heap} {sg : Array GenState} {sd : Drawn} {sk : Nat} {so : OsState} {E : Value → Shared → Prop} {cl : List (Str × Addr)} {fx : List (Addr × Obj)}
theorem loop1 {f : Int} {tt tf : Tok} {px : Bool} {dd dl : Addr} {us : List Value} {ds : List Int} {cd : Nat} {m : Str → Option Value}
    (B : Below A₀ base [] h₀) (F : Fr h₀ L sh m) (hm : ∀ q ∈ l1ps px (S []) tt dd dl f tf, m q.1 = some q.2) (X : (frag w.params).In h₀) (N : News h₀ L sh ((dd, listOf #[] 0) :: (dl, listOf us.toArray cd) :: fx)) (off : OwnOff ((dl, listOf us.toArray cd) :: fx) [dd]) (T : Top p loose mean mg mb h₀)
    (hi : IntsAre us ds) (hl : ds.length ≤ 80) (hd : dp + 20 < recursionLimit)
    {Q : Flow → Shared → Prop}
    (hq : ∀ h' k m' dus c' tl tt', Fr h₀ L h' m' → (∀ q ∈ l1ps px (S (txtOf (ksOf ds))) tt' dd dl f tf, m' q.1 = some q.2) → DatAll tl dus ((dueOf px 0 (ksOf ds)).map tokD) → News h₀ L h' ((dd, listOf dus.toArray c') :: (tl ++ (dl, listOf us.toArray cd) :: fx)) → (∀ z ∈ tl, @LT.lt Nat _ dd z.1) →
      Q .next ⟨h', sg, sd, k, so⟩) (hE : PassesOwn (model prog w) (lwA lf lc dp un gd L cl) (lwE lf lc L cl) E := by passes_own) :
    wpAny (model prog w) (lwA lf lc dp un gd L cl) (exec (stmtAt ast_law.1.2.1 6) (lwE lf lc L cl)) Q E ⟨sh, sg, sd, sk, so⟩ := by
  have hul := IntsAre.length hi
  show wpAny _ _ (exec (.For (.Name (Str.ofString "d") _) (.Name (Str.ofString "digits") _) l1P.2 [] _) _) _ _ _
  refine For_invVF F rfl rfl (nameX_L F (hm (Str.ofString "digits", .ref dl) (.tail _ (.tail _ (.tail _ (.head _))))) ?_) (fun _ => rfl) hE
  refine kdl_iter (fun i m nx => ∃ dus c' tl tt', nx = (dd, listOf dus.toArray c') :: (tl ++ (dl, listOf us.toArray cd) :: fx) ∧ (∀ q ∈ l1ps px (S (txtOf (ksOf (ds.take i)))) tt' dd dl f tf, m q.1 = some q.2) ∧ DatAll tl dus ((dueOf px 0 (ksOf (ds.take i))).map tokD) ∧ (∀ z ∈ tl, @LT.lt Nat _ dd z.1))
    rfl (.tail _ (.head _)) F N ⟨[], 0, [], tt, rfl, hm, .nil, fun _ h => nomatch h⟩ ?_ ?_
  · rintro i v m₁ nx h tk own hv hoff _ ⟨dus, c', tl, tt', rfl, hm', hA, lt⟩ F₁ N₁
    have hi' : i < ds.length := by rw [← hul]; exact (List.getElem?_eq_some_iff.mp hv).1
    obtain ⟨t, hx⟩ := hi.get i (ds[i]'hi') (List.getElem?_eq_getElem hi')
    have ev : v = .int (ds[i]'hi') t := (Option.some.inj (hx.symm.trans hv)).symm
    subst ev
    have hs : ds.take (i + 1) = ds.take i ++ [ds[i]'hi'] := by rw [List.take_add_one, List.getElem?_eq_getElem hi'] <;> rfl
    have hks : ksOf (ds.take (i + 1)) = ksOf (ds.take i) ++ [((ds[i]'hi').fmod 7).toNat] := by
      show (ds.take (i + 1)).map _ = _
      rw [hs, List.map_append]; rfl
    have hkl : (ksOf (ds.take i)).length = i := by simp [ksOf]; omega
    have h1 := txtOf_len (ksOf (ds.take i))
    have h2 := dueOf_len px (ksOf (ds.take i)) 0
    have h3 := hA.length
    rw [List.length_map] at h3
    have off' : OwnOff ((tl ++ (dl, listOf us.toArray cd) :: fx) ++ own) [dd] := fun q hq b hb => by
      rcases List.mem_append.mp hq with hq | hq
      · rcases List.mem_append.mp hq with hq | hq
        · rw [List.mem_singleton.mp hb]; exact neN (Nat.ne_of_gt (lt q hq))
        · exact off q hq b hb
      · rw [List.mem_singleton.mp hb]; exact hoff q hq dd (by simp)
    have N₂ : News h₀ L h ((dd, listOf dus.toArray c') :: ((tl ++ (dl, listOf us.toArray cd) :: fx) ++ own)) := N₁
    refine l1_turn (rest := (tl ++ (dl, listOf us.toArray cd) :: fx) ++ own) (px := px) (dl := dl) (f := f) (tf := tf) (tt := tt') (tx := S (txtOf (ksOf (ds.take i)))) (dus := dus) (m := fun y => if y = Str.ofString "d" then some (.int (ds[i]'hi') t) else m₁ y) B F₁ (if_pos rfl) (fun q hq => ?_) X N₂ off' T (by omega) (by rw [S_len]; omega) hd fun h2 k2 m2 nv c2 add t2 F2 hm2 hA2 N2 lt2 ld2 => ?_
    · show (if q.1 = Str.ofString "d" then _ else m₁ q.1) = _
      have hne : q.1 ≠ Str.ofString "d" := by
        simp only [List.mem_cons, List.not_mem_nil, or_false] at hq
        rcases hq with rfl | rfl | rfl | rfl | rfl <;> (dsimp only; decide +kernel)
      rw [if_neg hne]
      exact hm' q hq
    · refine ⟨h2, k2, m2, _, (dd, listOf (dus ++ nv).toArray c2) :: ((add ++ tl) ++ (dl, listOf us.toArray cd) :: fx), rfl, F2, N2, fun q hq => ?_, fun q hq => List.mem_cons_of_mem _ (List.mem_append.mpr (.inr (List.mem_append.mpr (.inr hq)))), ?_, ?_, dus ++ nv, c2, add ++ tl, t2, rfl, ?_, ?_, ?_⟩
      · simp only [List.mem_cons, List.mem_append] at hq ⊢
        rcases hq with h | (h | h) | h | h
        · exact .inl h
        · exact .inr (.inl h)
        · exact .inr (.inr (.inl (.inl h)))
        · exact .inr (.inr (.inl (.inr (.inl h))))
        · exact .inr (.inr (.inl (.inr (.inr h))))
      · intro q hq b hb
        obtain ⟨z, hz, rfl⟩ := List.mem_map.mp hb
        simp only [List.mem_cons, List.mem_append] at hz
        have o := hoff q hq
        rcases hz with rfl | (h | h) | rfl | h
        · exact o dd (by simp)
        · exact neN (Nat.ne_of_lt (lt2 q (List.mem_append.mpr (.inr hq)) z h))
        · exact o z.1 (by simp only [List.map_cons, List.map_append, List.mem_cons, List.mem_append]; exact .inr (.inl (List.mem_map_of_mem h)))
        · exact o dl (by simp)
        · exact o z.1 (by simp only [List.map_cons, List.map_append, List.mem_cons, List.mem_append]; exact .inr (.inr (.inr (List.mem_map_of_mem h))))
      · simp
      · rw [hks, txtOf_snoc, ← S_append]; exact hm2
      · rw [hks, dueOf_snoc, List.map_append]
        refine (hA.mono fun q hq => List.mem_append.mpr (.inr hq)).append ?_
        have e : ((partT px ((ds[i]'hi').fmod 7).toNat).map fun z => (z.1, 0 + (txtOf (ksOf (ds.take i))).length + z.2)).map tokD = (partT px ((ds[i]'hi').fmod 7).toNat).map fun z => tokD (z.1, (S (txtOf (ksOf (ds.take i)))).length + z.2) := by
          rw [List.map_map, S_len]
          apply List.map_congr_left
          intro z _
          simp
        rw [e]
        exact hA2.mono fun q hq => List.mem_append.mpr (.inl hq)
      · intro z hz
        rcases List.mem_append.mp hz with hz | hz
        · exact ld2 z hz
        · exact lt z hz
  · rintro m₁ nx h tk ⟨dus, c', tl, tt', rfl, hm', hA, lt⟩ F₁ N₁
    rw [hul, List.take_length] at hm' hA
    exact hq h tk m₁ dus c' tl tt' F₁ hm' hA N₁ lt
end
section
local macro_rules | `(tactic| walk_at "compareOp In str str") => `(tactic| first | refine in_lit (by assumption) ?_ | refine in_lit (b := true) (by decide +kernel) ?_ | refine in_lit (b := false) (by decide +kernel) ?_)
local macro_rules | `(tactic| walk_at "compareOp Eq str str") => `(tactic| first | refine eq_lit (by assumption) ?_ | refine eq_lit (b := true) (by decide +kernel) ?_ | refine eq_lit (b := false) (by decide +kernel) ?_)
local macro_rules | `(tactic| walk_at "truthy str") => `(tactic| (refine truthy_lit (by omega) (by assumption) ?_; intro _))
local macro_rules | `(tactic| walk_at "eval Attribute Name") => `(tactic| (k_dflt (refine' lex_get ?F ?X ?hm ?N ?e1 ?e2 ?hl ?hv ?_; (case F => k_asm); (case X => k_asm); (case hm => first | exact rfl | with_reducible assumption); (case N => k_asm); (case e1 => first | k_is | assumption); (case e2 => first | k_is | assumption); (case hl => first | k_get | assumption); (case hv => first | exact rfl | k_handed | assumption)); intro _))
local macro_rules | `(tactic| walk_at "setAttr ref") => `(tactic| (k_dflt (refine' lex_set ?F ?X ?N ?R ?off ?e1 ?hl ?e ?_; (case F => k_asm); (case X => k_asm); (case N => k_asm); (case R => assumption); (case off => assumption); (case e1 => k_is); (case hl => exact rfl); (case e => intro _; exact rfl)); intro _ _ _ _; (try k_sweep)))
local macro_rules | `(tactic| walk_at "call ref") => `(tactic| ((with_reducible show wpAny _ _ (call (Value.ref 533) _) _ _ _); k_dflt 
  (refine' read1 ?B ?F ?X ?N ?off ?T ?hk ?hat ?hz ?hlt ?hd ?_; (case B => k_asm); (case F => k_asm); (case X => k_asm); (case N => k_asm); (case off => exact offRead (by assumption) (by assumption)); (case T => k_asm); (case hk => rfl); (case hat => assumption); (case hz => assumption); (case hlt => exact Ord6.c (by assumption)); (case hd => ktr_room); intro h' tk' t' tp' F' N'; (try k_sweep))))
local macro_rules | `(tactic| walk_at "call ref") => `(tactic| ((with_reducible show wpAny _ _ (call (Value.ref 541) _) _ _ _); k_dflt 
  (refine' readline1 ?B ?F ?X ?N ?off ?T ?hk ?hat ?hc ?hr ?hz ?hlt ?hd ?_; (case B => k_asm); (case F => k_asm); (case X => k_asm); (case N => k_asm); (case off => exact offRead (by assumption) (by assumption)); (case T => k_asm); (case hk => rfl); (case hat => exact comAt (by assumption) (by assumption)); (case hc => exact comNe (by assumption) (by assumption)); (case hr => exact comHd (by assumption) (by assumption)); (case hz => assumption); (case hlt => exact Ord6.c (by assumption)); (case hd => ktr_room); intro v' t' h' tk' tp' F' N'; (try k_sweep))))
section
local macro_rules | `(tactic| walk_at "execs cons") => `(tactic| ((with_reducible refine wpAny_execs_cons ?_); try dsimp only))
local macro_rules | `(tactic| walk_at "execs nil") => `(tactic| with_reducible refine wpAny_execs_nil ?_)
theorem item_lastS (T' : List Nat) (c : Nat) : PySem.Txt.item (S (T' ++ [c])) (-1) = S [c] := by
  have h := item_last_right ⟨#[]⟩ T' c
  rw [show (⟨#[]⟩ : Str) ++ ⟨(T' ++ [c]).toArray⟩ = S (T' ++ [c]) from Str.empty_append _] at h
  exact h
theorem cutV (T' : List Nat) (c : Nat) (t : Tok) : some (Value.str (PySem.Txt.slice (S (T' ++ [c])) none (some (-1))) t) = some (.str (S T') t) := by
  rw [slice_last (n := T'.length) _ (by rw [S_len]; simp), S_list]
  simp
section
variable {lf : Addr} {lc : Value} {prog : Program} {w : World} {p : Program} {loose : List Str} {mean : ExcName → Option Value} {mg mb : Str → Option Value} {dp un : Nat} {gd : Option (List Code)} {L : Addr} {A₀ : Around} {base h₀ : Heap} {sh : Heap} {sg : Array GenState} {sd : Drawn} {sk : Nat} {so : OsState} {E : Value → Shared → Prop} {cl : List (Str × Addr)} {news : List (Addr × Obj)}
theorem seg3 {f : Int} {tt tf : Tok} {T' : List Nat} {c : Nat} {b : Bool} {u : Str → Option Value}
    (F : Fr h₀ L sh (kstB u [(Str.ofString "first", .int f tf), (Str.ofString "text", .str (S (T' ++ [c])) tt)])) (X : (frag w.params).In h₀) (N : News h₀ L sh news) (T : Top p loose mean mg mb h₀)
    (hb : inB (Str.ofString " \n\t") (S [c]) = b) (hz : T'.length ≤ 900)
    {Q : Flow → Shared → Prop}
    (hq : ∀ h' k m' txt tt', Fr h₀ L h' m' → News h₀ L h' news → m' (Str.ofString "text") = some (.str (S txt) tt') → (∀ y, y ≠ Str.ofString "text" → m' y = kstB u [(Str.ofString "first", .int f tf), (Str.ofString "text", .str (S (T' ++ [c])) tt)] y) → (txt = T' ++ [c] ∨ (txt = T' ∧ b = true)) → Q .next ⟨h', sg, sd, k, so⟩) :
    wpAny (model prog w) (lwA lf lc dp un gd L cl) (exec (stmtAt ast_law.1.2.1 7) (lwE lf lc L cl)) Q E ⟨sh, sg, sd, sk, so⟩ := by
  have hl : (S (T' ++ [c])).length = T'.length + 1 := by rw [S_len]; simp
  show wpAny _ _ (exec (.If _ _ _ _) _) _ _ _
  k_steps
  · exact hq _ _ _ _ tt (by assumption) (by assumption) rfl (fun _ _ => rfl) (.inl rfl)
  · refine hq _ _ _ T' _ (by assumption) (by assumption) ((if_pos rfl).trans (cutV T' c _)) (fun y hy => if_neg hy) (.inr ⟨rfl, ?_⟩)
    · rename (List.isEmpty (Builtin.Str.occurrences _ _ _ _ _)) = false => hh
      rw [item_lastS] at hh
      rw [← hb]
      show (!List.isEmpty _) = true
      rw [hh]; rfl
  · exact hq _ _ _ _ tt (by assumption) (by assumption) rfl (fun _ _ => rfl) (.inl rfl)
theorem txtOf_last : ∀ {ks : List Nat}, ks ≠ [] → ∃ T' c, txtOf ks = T' ++ [c] ∧ (c = 32 ∨ c = 10 ∨ c = 9 ∨ c = 40 ∨ c = 41)
  | [], h => absurd rfl h
  | [k], _ => by
    have e : txtOf [k] = partW k := by simp [txtOf]
    rw [e]
    match k with
    | 0 => exact ⟨[97], 32, rfl, .inl rfl⟩
    | 1 => exact ⟨[97], 40, rfl, .inr (.inr (.inr (.inl rfl)))⟩
    | 2 => exact ⟨[39, 39], 32, rfl, .inl rfl⟩
    | 3 => exact ⟨[34, 98, 32, 99, 34], 10, rfl, .inr (.inl rfl)⟩
    | 4 => exact ⟨[35, 39], 10, rfl, .inr (.inl rfl)⟩
    | 5 => exact ⟨[40], 41, rfl, .inr (.inr (.inr (.inr rfl)))⟩
    | _ + 6 => exact ⟨[97, 35, 40, 10], 9, rfl, .inr (.inr (.inl rfl))⟩
  | k :: k' :: r, _ => by
    obtain ⟨T', c, e, h⟩ := txtOf_last (ks := k' :: r) (fun z => nomatch z)
    refine ⟨partW k ++ T', c, ?_, h⟩
    rw [List.append_assoc, ← e]; rfl
/-- the text that is read: whole, or less a last white sign -/
def Txt (ks : List Nat) (txt : List Nat) : Prop := txt = txtOf ks ∨ ∃ c, (c = 32 ∨ c = 10 ∨ c = 9) ∧ txtOf ks = txt ++ [c]
theorem Txt.due {ks txt : List Nat} {px : Bool} (h : Txt ks txt) (h7 : ∀ k ∈ ks, k < 7) : Due px (S txt) (0, .sp, none) (dueOf px 0 ks) := by
  have at0 : ∀ l : List Nat, At (S l) 0 l := fun l => ⟨rfl, Nat.zero_le _⟩
  rcases h with rfl | ⟨c, hc, e⟩
  · exact text_due h7 (at0 _)
  · exact text_due_cut h7 hc e (at0 _)
theorem Txt.len {ks txt : List Nat} (h : Txt ks txt) : txt.length ≤ 6 * ks.length := by
  have h1 := txtOf_len ks
  rcases h with rfl | ⟨c, hc, e⟩
  · exact h1
  · rw [e, List.length_append] at h1; omega
theorem seg3M {f : Int} {tt tf : Tok} {ks : List Nat} {m : Str → Option Value}
    (F : Fr h₀ L sh m) (h1 : m (Str.ofString "first") = some (.int f tf)) (h2 : m (Str.ofString "text") = some (.str (S (txtOf ks)) tt)) (X : (frag w.params).In h₀) (N : News h₀ L sh news) (T : Top p loose mean mg mb h₀)
    (hk : ks ≠ []) (hz : ks.length ≤ 100)
    {Q : Flow → Shared → Prop}
    (hq : ∀ h' k m' txt tt', Fr h₀ L h' m' → News h₀ L h' news → m' (Str.ofString "text") = some (.str (S txt) tt') → (∀ y, y ≠ Str.ofString "text" → m' y = m y) → Txt ks txt → Q .next ⟨h', sg, sd, k, so⟩) :
    wpAny (model prog w) (lwA lf lc dp un gd L cl) (exec (stmtAt ast_law.1.2.1 7) (lwE lf lc L cl)) Q E ⟨sh, sg, sd, sk, so⟩ := by
  obtain ⟨T', c, e, hc⟩ := txtOf_last hk
  have hl := txtOf_len ks
  rw [e] at hl
  rw [List.length_append] at hl
  have e0 := kstB_self (m := m) (ps := [(Str.ofString "first", .int f tf), (Str.ofString "text", .str (S (T' ++ [c])) tt)]) (by
    intro q hq
    rcases List.mem_cons.mp hq with rfl | hq
    · exact h1
    · rw [List.mem_singleton.mp hq, ← e]; exact h2)
  have hb : ∃ b, inB (Str.ofString " 
	") (S [c]) = b ∧ (b = true → c = 32 ∨ c = 10 ∨ c = 9) := by
    rcases hc with rfl | rfl | rfl | rfl | rfl
    · exact ⟨_, rfl, fun _ => .inl rfl⟩
    · exact ⟨_, rfl, fun _ => .inr (.inl rfl)⟩
    · exact ⟨_, rfl, fun _ => .inr (.inr rfl)⟩
    · exact ⟨false, by decide +kernel, fun h => nomatch h⟩
    · exact ⟨false, by decide +kernel, fun h => nomatch h⟩
  obtain ⟨b, hb, hbc⟩ := hb
  refine seg3 (e0.symm ▸ F) X N T hb (by omega) fun h' k m' txt tt' F' N' ht hm hx => hq h' k m' txt tt' F' N' ht (fun y hy => (hm y hy).trans (congrFun e0 y)) ?_
  rcases hx with rfl | ⟨rfl, hb'⟩
  · exact .inl e.symm
  · exact .inr ⟨c, hbc hb', e⟩
end
end
end
section
local macro_rules | `(tactic| walk_at "call ref") => `(tactic| ((with_reducible show wpAny _ _ (call (Value.ref 722) _ _) _ _ _); k_dflt 
  ((show wpAny _ _ (call (Value.ref 722) [Value.str _ _] [(Str.ofString "posix", Value.bool _)]) _ _ _); refine' mk_lex ?hz ?B ?F ?X ?N ?T ?hk ?hd ?_; (case N => k_asm); (case hz => assumption); (case B => k_asm); (case F => k_asm); (case X => k_asm); (case T => k_asm); (case hk => exact rfl); (case hd => ktr_room); intro h1 k1 D1 K1 la1 lda1 ia1 ida1 pa1 fa1 R1 lt1 F1 H1)))
section
variable {lf : Addr} {lc : Value} {prog : Program} {w : World} {p : Program} {loose : List Str} {mean : ExcName → Option Value} {mg mb : Str → Option Value} {dp un : Nat} {gd : Option (List Code)} {L : Addr} {A₀ : Around} {base h₀ : Heap} {sh : Heap} {sg : Array GenState} {sd : Drawn} {sk : Nat} {so : OsState} {E : Value → Shared → Prop} {cx ce : Addr} {rest : List (Addr × Obj)}
theorem seg4a {txt : List Nat} {tt : Tok} {px : Bool} {oX : Obj} {vX : Option Value} {u : Str → Option Value}
    (B : Below A₀ base [] h₀) (F : Fr h₀ L sh (kstB u [(Str.ofString "posix", .bool px), (Str.ofString "text", .str (S txt) tt)])) (X : (frag w.params).In h₀) (N : News h₀ L sh ((cx, oX) :: rest)) (hX : oX.data = .cell vX) (off : OwnOff rest [cx]) (T : Top p loose mean mg mb h₀)
    (hz : (S txt).length ≤ 100000) (hd : dp + 20 < recursionLimit)
    {Q : Flow → Shared → Prop}
    (hq : ∀ h' k D K la lda ia ida pa fa o', Ord6 lda la ida ia pa fa → (∀ q ∈ (cx, oX) :: rest, @LT.lt Nat _ q.1 lda) → Fr h₀ L h' (kstB u [(Str.ofString "posix", .bool px), (Str.ofString "text", .str (S txt) tt)]) → o'.data = .cell (some (.ref la)) → LX w.params h₀ L la lda ia ida pa fa D K px (S txt) ((cx, o') :: rest) 0 .sp none h' → Q .next ⟨h', sg, sd, k, so⟩) :
    wpAny (model prog w) (lwA lf lc dp un gd L [(Str.ofString "lex", cx), (Str.ofString "end", ce)]) (exec (stmtAt ast_law.1.2.1 8) (lwE lf lc L [(Str.ofString "lex", cx), (Str.ofString "end", ce)])) Q E ⟨sh, sg, sd, sk, so⟩ := by
  show wpAny _ _ (exec (.Assign _ _ _) _) _ _ _
  k_steps
  rename_i h1 k1 D1 K1 la lda ia ida pa fa R1 lt1 F1 H1
  obtain ⟨ts, tl, tt', tp, ln, pst, pvs, hp, N1⟩ := H1
  have R2 := R1
  obtain ⟨r1, r2, r3, r4, r5⟩ := R2
  have lc : @LT.lt Nat _ cx lda := lt1 _ (.head _)
  have U : UpdF cx oX ((ia, instObj 587 ida) :: (ida, sioO w.params D1 (S txt) ((0 : Nat) : Int) tp) :: (la, instObj 722 lda) :: (lda, lexO w.params K1 px ia pa fa (LS.sp.val ts) ln tl (S []) tt') :: (pa, dequeO pst pvs) :: (fa, dequeO 0 []) :: (cx, oX) :: rest)
      (fun o' => (ia, instObj 587 ida) :: (ida, sioO w.params D1 (S txt) ((0 : Nat) : Int) tp) :: (la, instObj 722 lda) :: (lda, lexO w.params K1 px ia pa fa (LS.sp.val ts) ln tl (S []) tt') :: (pa, dequeO pst pvs) :: (fa, dequeO 0 []) :: (cx, o') :: rest) := by
    refine UpdF.tail ?_ (UpdF.tail ?_ (UpdF.tail ?_ (UpdF.tail ?_ (UpdF.tail ?_ (UpdF.tail ?_ (UpdF.head fun q hq => off q hq cx (.head _)))))))
    all_goals (refine neN ?_; dsimp only; omega)
  exact storeX_C F1 N1 rfl U hX fun h' o' F' N' ho' => hq h' _ D1 K1 la lda ia ida pa fa o' R1 lt1 F' ho' ⟨_, _, _, _, _, _, _, hp, N'⟩
end
end
noncomputable def cmpParts : Expr → Expr × Expr
  | .Compare l _ [r] _ => (l, r)
  | _ => (default, default)
noncomputable def l2P : Expr × List Stmt := forParts (stmtAt ast_law.1.2.1 11)
noncomputable def l2If : Expr × List Stmt × List Stmt := ifParts (stmtAt l2P.2 1)
noncomputable def l2C : Expr × Expr := cmpParts l2If.1
noncomputable def compParts : Expr → Expr × Expr × Scope
  | .ListComp e [⟨_, i, _, _⟩] s _ => (e, i, s)
  | _ => (default, default, default)
section
open PyProof.Rows.LCg PyProof.Rows.LCp
variable {lf : Addr} {lc : Value} {prog : Program} {w : World} {p : Program} {loose : List Str} {mean : ExcName → Option Value} {mg mb : Str → Option Value} {dp un : Nat} {gd : Option (List Code)} {L : Addr} {A₀ : Around} {base h₀ : Heap} {sh : Heap} {sg : Array GenState} {sd : Drawn} {sk : Nat} {so : OsState} {E : Value → Shared → Prop} {cl : List (Str × Addr)} {news : List (Addr × Obj)}
theorem comp_rest {rvs : List Value} {zs : List (List Nat × Nat)} {A0 : List (Addr × Obj)} {rt : Addr} {m : Str → Option Value} {s : Shared} {Fin : List Value → List (Addr × Obj) → Prop} (hA : DatAll A0 rvs (zs.map tokD)) (sub : ∀ q ∈ A0, q ∈ news) (hS : SrcAt h₀ rt rvs.toArray news)
    (fin : ∀ ys, DatAll [] ys (zs.map fun z => Dat.str (S z.1)) → Fin ys news) :
    ∀ (k i : Nat) (ys : List Value), i + k = rvs.length → DatAll [] ys ((zs.take i).map fun z => Dat.str (S z.1)) →
      CompRestP prog w (lwA lf lc dp un gd L cl) h₀ L m (lwE lf lc L cl) (compParts l2C.2).1 (Str.ofString "token") (Str.ofString "behind") (compParts l2C.2).2.2 [] s (SrcAt h₀ rt rvs.toArray) (fun i v => rvs.toArray[i]? = some v) Fin k i ys news := by
  have hlen := hA.length
  rw [List.length_map] at hlen
  intro k
  induction k with
  | zero =>
    intro i ys hk hy
    rw [List.take_of_length_le (by omega)] at hy
    exact fin ys hy
  | succ k ih =>
    intro i ys hk hy
    refine CompRestP.succ fun v hv => ?_
    have hv' : rvs[i]? = some v := by simpa using hv
    have hi : i < (zs.map tokD).length := by rw [List.length_map]; omega
    obtain ⟨v', e1, hD⟩ := hA.get hi
    rw [hv'] at e1
    cases e1
    have hz : i < zs.length := by omega
    rw [List.getElem_map] at hD
    cases hD with
    | @tuple a vs2 n _ hmem hd2 =>
      cases hd2 with
      | cons e1 r1 =>
        cases e1 with
        | str _ t1 =>
          cases r1 with
          | cons e2 r2 =>
            cases e2 with
            | int _ t2 =>
              cases r2
              refine ⟨a, _, _, _, n, rfl, sub _ hmem, rfl, rfl, fun I oI C oC D m₂ h tk E' hNs hx hx2 F N off ne => ?_⟩
              have hC : h.Ns C m₂ := hNs.ns (N (C, oC) (.tail _ (.head _))).1
              refine wpAny_Name (env := compEnvC (compParts l2C.2).2.2 [] C (lwE lf lc L cl)) (wpAny_loadName_local rfl rfl hC hx ?_) (by decide +kernel)
              refine CompEnd.intro F N news (fun _ h => h) off hS (ih (i + 1) _ (by omega) ?_)
              have e : zs.take (i + 1) = zs.take i ++ [zs[i]'hz] := by rw [List.take_add_one, List.getElem?_eq_getElem hz] <;> rfl
              rw [e, List.map_append]
              exact hy.append (.cons (.str _ _) .nil)
theorem comp_ev {rvs : List Value} {zs : List (List Nat × Nat)} {A0 : List (Addr × Obj)} {rt : Addr} {c : Nat} {m : Str → Option Value} (F : Fr h₀ L sh m) (N : News h₀ L sh news) (hr : m (Str.ofString "right") = some (.ref rt)) (hm : (rt, listOf rvs.toArray c) ∈ news) (hA : DatAll A0 rvs (zs.map tokD)) (sub : ∀ q ∈ A0, q ∈ news) (hz : rvs.length ≤ 1000)
    {Q : Value → Shared → Prop} (hq : ∀ D h' k ys, Fr h₀ L h' m → News h₀ L h' ((D, lst ys) :: news) → DatAll [] ys (zs.map fun z => Dat.str (S z.1)) → Q (.ref D) ⟨h', sg, sd, k, so⟩) :
    wpAny (model prog w) (lwA lf lc dp un gd L cl) (eval l2C.2 (lwE lf lc L cl)) Q E ⟨sh, sg, sd, sk, so⟩ := by
  show wpAny _ _ (eval (.ListComp (compParts l2C.2).1 [⟨.Tuple [.Name (Str.ofString "token") _, .Name (Str.ofString "behind") _] _ _, .Name (Str.ofString "right") _, [], 0⟩] (compParts l2C.2).2.2 _) _) _ _ _
  refine ListComp_P (cl := []) F (closureFor_none (by decide)) (by decide) rfl (by decide) (by decide +kernel) (by decide +kernel) (by decide +kernel) ?_ (fun _ => rfl)
  refine nameX_L F hr ?_
  refine SrcLP.ledger rfl F N hm (by simp [sizeLine]; omega) fun g => ?_
  have hS : SrcAt h₀ rt rvs.toArray news := .inr ⟨_, hm, rfl, _, rfl⟩
  have h := comp_rest (lf := lf) (lc := lc) (prog := prog) (w := w) (dp := dp) (un := un) (gd := gd) (L := L) (cl := cl) (m := m) (s := ⟨g, sg, sd, sk, so⟩) (Fin := FinE h₀ L m ⟨g, sg, sd, sk, so⟩ Q) hA sub hS (fun ys hy D h tk F' N' _ => hq D h tk ys F' N' hy) rvs.length 0 [] (by omega) .nil
  have e : rvs.toArray.size = rvs.length := by simp
  rw [e]
  exact h
end
section
section
variable {prog : Program} {w : World} {A : Around} {E : Value → Shared → Prop} {s : Shared} {h₀ : Heap} {L : Addr} {m : Str → Option Value} {rest : List (Addr × Obj)} {value slice : PySem.Expr} {Q : Value → Shared → Prop}
theorem pick_drop {vs : List Value} {tk : Nat} (h : tk ≤ vs.length) : (slicePick vs.toArray (some (tk : Int)) none none).toList = vs.drop tk := by
  rw [kmk_pick_nat (a := tk) (b := vs.length) vs.toArray (by unfold sliceBounds; simp; omega)]
  simp
  rw [List.take_of_length_le (by simp)]
theorem pick_one {vs : List Value} {tk : Nat} (h : tk ≤ vs.length) : (slicePick vs.toArray (some (tk : Int)) (some ((tk : Int) + 1)) none).toList = (vs.drop tk).take 1 := by
  rw [kmk_pick_nat (a := tk) (b := min (tk + 1) vs.length) vs.toArray (by unfold sliceBounds; simp; omega)]
  show (vs.drop tk).take _ = _
  rcases Nat.lt_or_ge tk vs.length with h1 | h1
  · rw [Nat.min_eq_left (by omega), show tk + 1 - tk = 1 from by omega]
  · have e : tk = vs.length := by omega
    subst e
    simp
theorem due_all {dd : Addr} {dus : List Value} {c n : Nat} {t : Tok} (hn : n ≤ dus.length) (hz : dus.length ≤ 1000) (F : Fr h₀ L s.heap m) (N : News h₀ L s.heap ((dd, listOf dus.toArray c) :: rest))
    (h : ∀ D h', Fr h₀ L h' m → News h₀ L h' ((D, listOf (dus.drop n).toArray 0) :: (dd, listOf dus.toArray c) :: rest) → (∀ p ∈ (dd, listOf dus.toArray c) :: rest, @LT.lt Nat _ p.1 D) → Q (.ref D) { s with heap := h' })
    (hs : subscripted slice false (.ref dd) (.ref s.heap.objs.size) = operate [.ref s.heap.objs.size, .ref dd] (getItem (.ref dd) (.ref s.heap.objs.size))) (ht : ∀ r, letTemporaryGo value (.ref dd) r = pure ()) :
    wpAny (model prog w) A (subscriptTail value slice (.ref dd) (.ref s.heap.objs.size)) Q E { s with heap := s.heap.push { cls := .type "slice", data := .fields #[.int (n : Int) t, .none, .none] } } :=
  kmk_slice_lit F N ⟨_, N.get (.head _), rfl, _, rfl⟩ (.int _ _) .none (pick_drop hn) h hs ht (by simp [sizeLine]; omega)
theorem due_step {dd : Addr} {dus : List Value} {c n : Nat} {t t' : Tok} (hn : n ≤ dus.length) (hz : dus.length ≤ 1000) (F : Fr h₀ L s.heap m) (N : News h₀ L s.heap ((dd, listOf dus.toArray c) :: rest))
    (h : ∀ D h', Fr h₀ L h' m → News h₀ L h' ((D, listOf ((dus.drop n).take 1).toArray 0) :: (dd, listOf dus.toArray c) :: rest) → (∀ p ∈ (dd, listOf dus.toArray c) :: rest, @LT.lt Nat _ p.1 D) → Q (.ref D) { s with heap := h' })
    (hs : subscripted slice false (.ref dd) (.ref s.heap.objs.size) = operate [.ref s.heap.objs.size, .ref dd] (getItem (.ref dd) (.ref s.heap.objs.size))) (ht : ∀ r, letTemporaryGo value (.ref dd) r = pure ()) :
    wpAny (model prog w) A (subscriptTail value slice (.ref dd) (.ref s.heap.objs.size)) Q E { s with heap := s.heap.push { cls := .type "slice", data := .fields #[.int (n : Int) t, .int ((n : Int) + 1) t', .none] } } :=
  kmk_slice_lit F N ⟨_, N.get (.head _), rfl, _, rfl⟩ (.int _ _) (.int _ _) (pick_one hn) h hs ht (by simp [sizeLine]; omega)
end
local macro_rules | `(tactic| walk_at "subscriptTail Name Slice ref ref") => `(tactic| (k_dflt first
  | (refine' due_all ?hn ?hz ?F ?N ?_ ?hs ?ht; (case hn => assumption); (case hz => assumption); (case F => k_asm); (case N => assumption); (case hs => exact rfl); (case ht => exact fun _ => rfl); intro D1 h1 F1 N1 l1; (try k_sweep))
  | (refine' due_step ?hn ?hz ?F ?N ?_ ?hs ?ht; (case hn => assumption); (case hz => assumption); (case F => k_asm); (case N => assumption); (case hs => exact rfl); (case ht => exact fun _ => rfl); intro D1 h1 F1 N1 l1; (try k_sweep))))
section
variable {lf : Addr} {lc : Value} {prog : Program} {w : World} {p : Program} {loose : List Str} {mean : ExcName → Option Value} {mg mb : Str → Option Value} {dp un : Nat} {gd : Option (List Code)} {L : Addr} {A₀ : Around} {base h₀ : Heap} {sh : Heap} {sg : Array GenState} {sd : Drawn} {sk : Nat} {so : OsState} {E : Value → Shared → Prop} {cl : List (Str × Addr)} {rest : List (Addr × Obj)}
theorem b0 {d : Int} {td tk : Tok} {dd : Addr} {dus rvs : List Value} {c n : Nat} {u : Str → Option Value}
    (F : Fr h₀ L sh (kstB u [(Str.ofString "d", .int d td), (Str.ofString "due", .ref dd), (Str.ofString "taken", .int (n : Int) tk)])) (X : (frag w.params).In h₀) (N : News h₀ L sh ((dd, listOf dus.toArray c) :: rest)) (T : Top p loose mean mg mb h₀)
    (hn : n ≤ dus.length) (hz : dus.length ≤ 1000) (hr : rvs = if d.fdiv 7 = 4 then dus.drop n else (dus.drop n).take 1)
    {Q : Flow → Shared → Prop}
    (hq : ∀ h' k m' rt, (∀ p ∈ (dd, listOf dus.toArray c) :: rest, @LT.lt Nat _ p.1 rt) → Fr h₀ L h' m' → News h₀ L h' ((rt, listOf rvs.toArray 0) :: (dd, listOf dus.toArray c) :: rest) → m' (Str.ofString "right") = some (.ref rt) → (∀ y, y ≠ Str.ofString "right" → m' y = kstB u [(Str.ofString "d", .int d td), (Str.ofString "due", .ref dd), (Str.ofString "taken", .int (n : Int) tk)] y) → Q .next ⟨h', sg, sd, k, so⟩) :
    wpAny (model prog w) (lwA lf lc dp un gd L cl) (exec (stmtAt l2P.2 0) (lwE lf lc L cl)) Q E ⟨sh, sg, sd, sk, so⟩ := by
  show wpAny _ _ (exec (.Assign _ _ _) _) _ _ _
  by_cases h4 : d.fdiv 7 = 4
  · rw [if_pos h4] at hr
    subst hr
    k_steps
    · exact hq _ _ _ _ (by assumption) (by assumption) (by assumption) (if_pos rfl) fun y hy => if_neg hy
    all_goals contradiction
  · rw [if_neg h4] at hr
    subst hr
    k_steps
    · contradiction
    all_goals exact hq _ _ _ _ (by assumption) (by assumption) (by assumption) (if_pos rfl) fun y hy => if_neg hy
end
end
section
theorem StrsV.dat : ∀ {vs : List Value} {ls : List (List Nat)}, StrsV vs ls → DatAll [] vs (ls.map fun l => Dat.str (S l))
  | _, _, .nil => .nil
  | _, _, .cons ⟨_, e⟩ r => by subst e; exact .cons (.str _ _) r.dat
def tokOk (l : List Nat) : Prop := PyData.strOk (S l) = true
section
variable {lf : Addr} {lc : Value} {prog : Program} {w : World} {p : Program} {loose : List Str} {mean : ExcName → Option Value} {mg mb : Str → Option Value} {dp un : Nat} {gd : Option (List Code)} {cn : Str} {cs : Scope} {a : Addr} {ccd : Value} {cl : List (Str × Addr)} {L : Addr} {A₀ : Around} {base h₀ : Heap} {m : Str → Option Value} {sh : Heap} {sg : Array GenState} {sd : Drawn} {sk : Nat} {so : OsState} {E : Value → Shared → Prop} {rest news : List (Addr × Obj)}
  {px : Bool} {x : Str} {la lda ia ida pa fa : Addr} {D K : Nat → Tok} {s1 s2 : Nat × LS × Option Nat} {l : List Nat}
open Classical in
theorem ne_toks {Aa : Around} {s : Shared} {a b : Addr} {xs ys : List Value} {c k : Nat} {ls ls' : List (List Nat)} (N : News h₀ L s.heap news) (ma : (a, listOf xs.toArray c) ∈ news) (mb : (b, listOf ys.toArray k) ∈ news)
    (Da : StrsV xs ls) (Db : DatAll [] ys (ls'.map fun l => Dat.str (S l))) (e : ls = ls') (ok : ∀ l ∈ ls, tokOk l) (hu : Aa.units + 64 < cLine) {Q : Value → Shared → Prop} (h : Q (.bool false) s) :
    wpAny (model prog w) Aa (compareOp .NotEq (.ref a) (.ref b)) Q E s := by
  subst e
  have hk : ∀ d ∈ ls.map fun l => Dat.str (S l), kqdOk 8 d = true := by
    intro d hd
    obtain ⟨l, hl, rfl⟩ := List.mem_map.mp hd
    exact ok l hl
  refine kqd_ne N ma rfl rfl Da.dat (fun _ h => nomatch h) mb rfl rfl Db (fun _ h => nomatch h) hk hk hu ?_
  rw [decide_eq_true rfl]
  exact h
theorem law_takeZ {t te : Tok} {z : Int} {v : Value} {hand : Nat} {toks : List (List Nat)} (hz0 : z = (hand : Int)) (hv0 : v = eofV px te) (B : Below A₀ base [] h₀) (F : Fr h₀ L sh m) (X : (frag w.params).In h₀) (off : OwnOff rest [ia, ida, la, lda, pa, fa]) (R : Ord6 lda la ida ia pa fa) (T : Top p loose mean mg mb h₀) (hk : cs.kind = .function) (hz : x.length ≤ 100000) (hd : dp + 10 < recursionLimit) (XB : (frag w.params).In base) (TB : Top p loose mean mg mb base)
    {Q : Value → Shared → Prop} (H : LX w.params h₀ L la lda ia ida pa fa D K px x rest s1.1 s1.2.1 s1.2.2 sh) (g : Take px x hand s1 toks s2)
    (hret : ∀ Sx h' k vs c', (∀ q ∈ rest, @LT.lt Nat _ q.1 Sx) → Fr h₀ L h' m → StrsV vs toks → LX w.params h₀ L la lda ia ida pa fa D K px x ((Sx, listOf vs.toArray c') :: rest) s2.1 s2.2.1 s2.2.2 h' → Q (.ref Sx) ⟨h', sg, sd, k, so⟩) :
    wpAny (model prog w) (ktrTop dp un gd cn cs L a ccd cl []) (call (.ref 747) [.ref la, .int z t, v]) Q E ⟨sh, sg, sd, sk, so⟩ := by
  subst hz0 hv0
  exact law_take B F X off R T hk hz hd XB TB H g hret
theorem newsDropS {h : Heap} {b a1 a2 a3 a4 a5 a6 c : Addr × Obj} {r : List (Addr × Obj)} (N : News h₀ L h (b :: a1 :: a2 :: a3 :: a4 :: a5 :: a6 :: c :: r)) : News h₀ L h (a1 :: a2 :: a3 :: a4 :: a5 :: a6 :: r) := newsSub N (by
  intro q hq
  simp only [List.mem_cons] at hq ⊢
  rcases hq with h | h | h | h | h | h | h
  · exact .inr (.inl h)
  · exact .inr (.inr (.inl h))
  · exact .inr (.inr (.inr (.inl h)))
  · exact .inr (.inr (.inr (.inr (.inl h))))
  · exact .inr (.inr (.inr (.inr (.inr (.inl h)))))
  · exact .inr (.inr (.inr (.inr (.inr (.inr (.inl h))))))
  · exact .inr (.inr (.inr (.inr (.inr (.inr (.inr (.inr h))))))))
theorem sub11 {A0 fx : List (Addr × Obj)} {a1 a2 a3 a4 a5 a6 a7 a8 a9 a10 a11 : Addr × Obj} (h : ∀ q ∈ A0, q ∈ fx) : ∀ q ∈ A0, q ∈ a1 :: a2 :: a3 :: a4 :: a5 :: a6 :: a7 :: a8 :: a9 :: a10 :: a11 :: fx :=
  fun q hq => .tail _ (.tail _ (.tail _ (.tail _ (.tail _ (.tail _ (.tail _ (.tail _ (.tail _ (.tail _ (.tail _ (h q hq)))))))))))
theorem comp_evZ {rvs : List Value} {zs : List (List Nat × Nat)} {A0 : List (Addr × Obj)} {rt : Addr} {c : Nat} (F : Fr h₀ L sh m) (N : News h₀ L sh news) (hr : m (Str.ofString "right") = some (.ref rt)) (hm : (rt, listOf rvs.toArray c) ∈ news) (hA : DatAll A0 rvs (zs.map tokD)) (sub : ∀ q ∈ A0, q ∈ news) (hz : rvs.length ≤ 1000)
    {Q : Value → Shared → Prop} (hq : ∀ D h' k ys, Fr h₀ L h' m → News h₀ L h' ((D, listOf ys.toArray ys.length) :: news) → DatAll [] ys ((zs.map (·.1)).map fun l => Dat.str (S l)) → Q (.ref D) ⟨h', sg, sd, k, so⟩) :
    wpAny (model prog w) (lwA lf lc dp un gd L cl) (eval l2C.2 (lwE lf lc L cl)) Q E ⟨sh, sg, sd, sk, so⟩ :=
  comp_ev F N hr hm hA sub hz fun D h' k ys F' N' hy => hq D h' k ys F' N' (by rw [List.map_map]; exact hy)
end
local macro_rules | `(tactic| walk_at "call ref") => `(tactic| ((with_reducible show wpAny _ _ (call (Value.ref 747) _) _ _ _); k_dflt 
  (refine' law_takeZ ?h0 ?v0 ?B ?F ?X ?off ?R ?T ?hk ?hz ?hd ?XB ?TB ?H ?g ?_; (case g => with_reducible assumption); (case h0 => with_reducible assumption); (case v0 => exact rfl); (case B => k_asm); (case F => k_asm); (case X => k_asm); (case off => with_reducible assumption); (case R => with_reducible assumption); (case T => k_asm); (case XB => k_asm); (case TB => k_asm); (case hk => exact rfl); (case hd => ktr_room); (case H => exact ⟨_, _, _, _, _, _, _, (by with_reducible assumption), by k_asm⟩); (case hz => with_reducible assumption); intro S1 h1 k1 vs1 c1 lt1 F1 hv1 H1; obtain ⟨ts1, tl1, tt1, tp1, ln1, pst1, pvs1, hp1, N1⟩ := H1; (try k_sweep))))
local macro_rules | `(tactic| walk_at "eval ListComp") => `(tactic| (k_dflt (refine' comp_evZ ?F ?N ?hr ?hm ?hA ?sub ?hz ?_; (case F => k_asm); (case hA => with_reducible assumption); (case hr => exact rfl); (case N => k_asm); (case hm => k_mem); (case sub => with_reducible refine sub11 ?_; with_reducible assumption); (case hz => with_reducible assumption); intro D2 h2 k2 ys2 F2 N2 hy2)))
local macro_rules | `(tactic| walk_at "compareOp NotEq ref ref") => `(tactic| (k_dflt (refine' ne_toks ?N ?ma ?mb ?Da ?Db ?e ?ok ?hu ?_; (case Da => with_reducible assumption); (case Db => with_reducible assumption); (case N => k_asm); (case ma => k_mem); (case mb => k_mem); (case e => with_reducible assumption); (case ok => with_reducible assumption); (case hu => with_reducible assumption))))
section
variable {lf : Addr} {lc : Value} {prog : Program} {w : World} {p : Program} {loose : List Str} {mean : ExcName → Option Value} {mg mb : Str → Option Value} {dp un : Nat} {gd : Option (List Code)} {L : Addr} {A₀ : Around} {base h₀ : Heap} {sh : Heap} {sg : Array GenState} {sd : Drawn} {sk : Nat} {so : OsState} {E : Value → Shared → Prop} {cx ce : Addr} {fx : List (Addr × Obj)}
  {px : Bool} {x : Str} {la lda ia ida pa fa : Addr} {D K : Nat → Tok} {s1 s2 : Nat × LS × Option Nat}
theorem b1 {d : Int} {td te : Tok} {rt dd : Addr} {dus rvs : List Value} {c hand : Nat} {u : Str → Option Value} {oX oE : Obj} {toks : List (List Nat)} {zs : List (List Nat × Nat)} {A0 : List (Addr × Obj)}
    (B : Below A₀ base [] h₀) (F : Fr h₀ L sh (kstB u [(Str.ofString "d", .int d td), (Str.ofString "right", .ref rt)])) (X : (frag w.params).In h₀) (T : Top p loose mean mg mb h₀) (XB : (frag w.params).In base) (TB : Top p loose mean mg mb base)
    (H : LX w.params h₀ L la lda ia ida pa fa D K px x ((cx, oX) :: (ce, oE) :: (rt, listOf rvs.toArray 0) :: (dd, listOf dus.toArray c) :: fx) s1.1 s1.2.1 s1.2.2 sh)
    (hX : oX.data = .cell (some (.ref la))) (hE : oE.data = .cell (some (eofV px te))) (off : OwnOff ((cx, oX) :: (ce, oE) :: (rt, listOf rvs.toArray 0) :: (dd, listOf dus.toArray c) :: fx) [ia, ida, la, lda, pa, fa]) (R : Ord6 lda la ida ia pa fa)
    (h0 : d.fdiv 7 = (hand : Int)) (g : Take px x hand s1 toks s2) (hA : DatAll A0 rvs (zs.map tokD)) (sub : ∀ q ∈ A0, q ∈ fx) (hz : rvs.length ≤ 1000) (e : toks = zs.map (·.1)) (ok : ∀ l ∈ toks, tokOk l) (hu : un + 64 < cLine) (hxz : x.length ≤ 100000) (hd : dp + 20 < recursionLimit)
    {Q : Flow → Shared → Prop}
    (hq : ∀ h' k, Fr h₀ L h' (kstB u [(Str.ofString "d", .int d td), (Str.ofString "right", .ref rt)]) → LX w.params h₀ L la lda ia ida pa fa D K px x ((cx, oX) :: (ce, oE) :: (rt, listOf rvs.toArray 0) :: (dd, listOf dus.toArray c) :: fx) s2.1 s2.2.1 s2.2.2 h' → Q .next ⟨h', sg, sd, k, so⟩) :
    wpAny (model prog w) (lwA lf lc dp un gd L [(Str.ofString "lex", cx), (Str.ofString "end", ce)]) (exec (stmtAt l2P.2 1) (lwE lf lc L [(Str.ofString "lex", cx), (Str.ofString "end", ce)])) Q E ⟨sh, sg, sd, sk, so⟩ := by
  obtain ⟨ts0, tl0, tt0, tp0, ln0, pst0, pvs0, hp0, N0⟩ := H
  show wpAny _ _ (exec (.If _ _ _ _) _) _ _ _
  k_steps
  exact hq _ _ (by assumption) ⟨_, _, _, _, _, _, _, by assumption, newsDropS (by assumption)⟩
end
end
section
section
variable {prog : Program} {w : World} {L : Addr} {h₀ : Heap} {E : Value → Shared → Prop} {news : List (Addr × Obj)}
theorem intEq {o : Option Value} {a b : Int} {t : Tok} (e : a = b) (h : o = some (.int a t)) : o = some (.int b t) := e ▸ h
theorem sub2 {A0 fx : List (Addr × Obj)} {a1 a2 : Addr × Obj} (h : ∀ q ∈ A0, q ∈ fx) : ∀ q ∈ A0, q ∈ a1 :: a2 :: fx := fun q hq => .tail _ (.tail _ (h q hq))
theorem tokD_ok {zs : List (List Nat × Nat)} (ok : ∀ z ∈ zs, tokOk z.1) : ∀ d ∈ zs.map tokD, kqdOk 8 d = true := by
  intro d hd
  obtain ⟨z, hz, rfl⟩ := List.mem_map.mp hd
  have := ok z hz
  show ([Dat.str (S z.1), Dat.int z.2].all (kqdOk 7)) = true
  simp only [List.all_cons, List.all_nil, Bool.and_true, Bool.and_eq_true]
  exact ⟨this, rfl⟩
open Classical in
theorem ne_empty {Aa : Around} {s : Shared} {a b : Addr} {xs : List Value} {c k : Nat} {zs : List (List Nat × Nat)} {A0 : List (Addr × Obj)} (N : News h₀ L s.heap news) (ma : (a, listOf xs.toArray c) ∈ news) (mb : (b, listOf #[] k) ∈ news)
    (hA : DatAll A0 xs (zs.map tokD)) (sub : ∀ q ∈ A0, q ∈ news) (ok : ∀ z ∈ zs, tokOk z.1) (hu : Aa.units + 64 < cLine) {Q : Value → Shared → Prop} (h : Q (.bool (!zs.isEmpty)) s) :
    wpAny (model prog w) Aa (compareOp .NotEq (.ref a) (.ref b)) Q E s := by
  refine kqd_ne N ma rfl rfl hA sub mb rfl (show _ = Data.seq ([] : List Value).toArray k from rfl) (.nil : DatAll [] [] []) (fun _ h => nomatch h) (tokD_ok ok) (fun d hd => absurd hd (List.not_mem_nil)) hu ?_
  have e : decide (zs.map tokD = []) = zs.isEmpty := by
    cases zs with
    | nil => exact decide_eq_true rfl
    | cons z r => exact decide_eq_false (List.cons_ne_nil (tokD z) (r.map tokD))
  rw [e]
  exact h
theorem tok_behind {Aa : Around} {s : Shared} {value slice : Expr} {v : Value} {d : Dat} {z : List Nat × Nat} {u : Tok} {A0 : List (Addr × Obj)} {Q : Value → Shared → Prop} (N : News h₀ L s.heap news) (sub : ∀ q ∈ A0, q ∈ news) (hD : DatIn A0 v d) (hd : d = tokD z) (h : ∀ t, Q (.int (z.2 : Int) t) s)
    (hs : ∀ a, subscripted slice false (.ref a) (.int 1 u) = operate [.ref a, .int 1 u] (getItem (.ref a) (.int 1 u))) :
    wpAny (model prog w) Aa (subscriptTail value slice v (.int 1 u)) Q E s := by
  subst hd
  cases hD with
  | @tuple a vs2 n _ hmem hd2 =>
    cases hd2 with
    | cons e1 r1 =>
      cases r1 with
      | cons e2 r2 =>
        cases e2 with
        | int _ t2 =>
          cases r2
          exact item_tupleT (News.isTup N (sub _ hmem)) (by decide) (by decide) rfl rfl (h _) (hs a)
theorem tok_token {Aa : Around} {s : Shared} {value slice : Expr} {v : Value} {d : Dat} {z : List Nat × Nat} {u : Tok} {A0 : List (Addr × Obj)} {Q : Value → Shared → Prop} (N : News h₀ L s.heap news) (sub : ∀ q ∈ A0, q ∈ news) (hD : DatIn A0 v d) (hd : d = tokD z) (h : ∀ t, Q (.str (S z.1) t) s)
    (hs : ∀ a, subscripted slice false (.ref a) (.int 0 u) = operate [.ref a, .int 0 u] (getItem (.ref a) (.int 0 u))) :
    wpAny (model prog w) Aa (subscriptTail value slice v (.int 0 u)) Q E s := by
  subst hd
  cases hD with
  | @tuple a vs2 n _ hmem hd2 =>
    cases hd2 with
    | cons e1 r1 =>
      cases e1 with
      | str _ t1 =>
        cases r1 with
        | cons e2 r2 =>
          cases r2
          exact item_tupleT (News.isTup N (sub _ hmem)) (by decide) (by decide) rfl rfl (h _) (hs a)
end
local macro_rules | `(tactic| walk_at "loadName") => `(tactic| (k_dflt (refine' wpAny_loadName_local (L := ?L0) rfl rfl ?N0 rfl ?_; (case N0 => exact Fr.ns (by k_asm)))))
local macro_rules | `(tactic| walk_at "compareOp NotEq ref ref") => `(tactic| (k_dflt (refine' ne_empty ?N ?ma ?mb ?hA ?sub ?ok ?hu ?_; (case hA => with_reducible assumption); (case N => k_asm); (case ma => k_mem); (case mb => k_mem); (case sub => with_reducible refine sub2 ?_; with_reducible assumption); (case ok => with_reducible assumption); (case hu => with_reducible assumption))))
section
variable {lf : Addr} {lc : Value} {prog : Program} {w : World} {p : Program} {loose : List Str} {mean : ExcName → Option Value} {mg mb : Str → Option Value} {dp un : Nat} {gd : Option (List Code)} {L : Addr} {A₀ : Around} {base h₀ : Heap} {sh : Heap} {sg : Array GenState} {sd : Drawn} {sk : Nat} {so : OsState} {E : Value → Shared → Prop} {cl : List (Str × Addr)} {news : List (Addr × Obj)}
theorem b23 {tt tk : Tok} {rt : Addr} {rvs : List Value} {n c : Nat} {txt : List Nat} {u : Str → Option Value} {A0 : List (Addr × Obj)} {zs : List (List Nat × Nat)}
    (F : Fr h₀ L sh (kstB u [(Str.ofString "right", .ref rt), (Str.ofString "taken", .int (n : Int) tk), (Str.ofString "text", .str (S txt) tt)])) (X : (frag w.params).In h₀) (N : News h₀ L sh ((rt, listOf rvs.toArray c) :: news)) (T : Top p loose mean mg mb h₀)
    (hn : n ≤ 1000) (hz : rvs.length ≤ 1000) (ht : txt.length ≤ 1000) (hl : (S txt).length = txt.length) (hA : DatAll A0 rvs (zs.map tokD)) (hzs : zs.length = rvs.length)
    {Q : Flow → Shared → Prop} {rs : List Stmt}
    (hq : ∀ h' k m' tk' tp, Fr h₀ L h' m' → News h₀ L h' ((rt, listOf rvs.toArray c) :: news) → m' (Str.ofString "taken") = some (.int ((n + rvs.length : Nat) : Int) tk') → m' (Str.ofString "place") = some (.int (txt.length : Int) tp) → (∀ y, y ≠ Str.ofString "taken" → y ≠ Str.ofString "place" → m' y = kstB u [(Str.ofString "right", .ref rt), (Str.ofString "taken", .int (n : Int) tk), (Str.ofString "text", .str (S txt) tt)] y) → wpAny (model prog w) (lwA lf lc dp un gd L cl) (execs rs (lwE lf lc L cl)) Q E ⟨h', sg, sd, k, so⟩) :
    wpAny (model prog w) (lwA lf lc dp un gd L cl) (execs (stmtAt l2P.2 2 :: stmtAt l2P.2 3 :: rs) (lwE lf lc L cl)) Q E ⟨sh, sg, sd, sk, so⟩ := by
  show wpAny _ _ (execs (.AugAssign _ _ _ _ :: .Assign _ _ _ :: rs) _) _ _ _
  k_steps
  refine wpAny_loadName_local rfl rfl F.ns rfl ?_
  k_steps
  refine kd_len N (.head _) hA (by simp; omega) ?_
  k_steps
  rename Fr _ _ _ _ => F1
  exact hq _ _ _ _ _ F1 (by assumption) (intEq (by rw [List.length_map, hzs, Int.natCast_add]) ((if_neg (by decide)).trans (if_pos rfl))) (intEq (by rw [hl]) (if_pos rfl)) (fun y h1 h2 => (if_neg h2).trans (if_neg h1))
theorem b4 {d : Int} {td tp : Tok} {rt : Addr} {rvs : List Value} {c hand pl : Nat} {u : Str → Option Value} {A0 : List (Addr × Obj)} {zs : List (List Nat × Nat)}
    (F : Fr h₀ L sh (kstB u [(Str.ofString "d", .int d td), (Str.ofString "right", .ref rt), (Str.ofString "place", .int (pl : Int) tp)])) (X : (frag w.params).In h₀) (N : News h₀ L sh ((rt, listOf rvs.toArray c) :: news)) (T : Top p loose mean mg mb h₀)
    (h0 : d.fdiv 7 = (hand : Int)) (hz : rvs.length ≤ 1000) (hA : DatAll A0 rvs (zs.map tokD)) (sub : ∀ q ∈ A0, q ∈ news) (ok : ∀ z ∈ zs, tokOk z.1) (h4 : hand ≠ 4 → rvs.length ≤ 1) (hu : un + 64 < cLine)
    {Q : Flow → Shared → Prop}
    (hq : ∀ h' k m' tp' pl', Fr h₀ L h' m' → News h₀ L h' ((rt, listOf rvs.toArray c) :: news) → m' (Str.ofString "place") = some (.int pl' tp') → (pl' = if hand = 4 then (pl : Int) else match zs with | [] => (pl : Int) | z :: _ => min (pl : Int) (z.2 : Int)) → (∀ y, y ≠ Str.ofString "place" → m' y = kstB u [(Str.ofString "d", .int d td), (Str.ofString "right", .ref rt), (Str.ofString "place", .int (pl : Int) tp)] y) → Q .next ⟨h', sg, sd, k, so⟩) :
    wpAny (model prog w) (lwA lf lc dp un gd L cl) (exec (stmtAt l2P.2 4) (lwE lf lc L cl)) Q E ⟨sh, sg, sd, sk, so⟩ := by
  show wpAny _ _ (exec (.If _ _ _ _) _) _ _ _
  by_cases hh : hand = 4
  · subst hh
    k_steps
    · exfalso; omega
    · exfalso; omega
    · exact hq _ _ _ tp (pl : Int) (by assumption) N rfl (if_pos rfl).symm (fun _ _ => rfl)
  · cases zs with
    | nil =>
      k_steps
      · exact hq _ _ _ tp (pl : Int) (by assumption) (newsTail (by assumption)) rfl (if_neg hh).symm (fun _ _ => rfl)
      · exfalso; omega
    | cons z zs =>
      k_steps
      · contradiction
      · rename_i a1 a2 hk' a3 hD'
        refine tok_behind (by assumption) (sub2 sub) hD' (Option.some.inj hk').symm (fun t => ?_) (fun _ => rfl)
        k_steps
        refine hq _ _ _ _ _ (by assumption) (newsTail (by assumption)) (if_pos rfl) ?_ (fun y hy => if_neg hy)
        rw [if_neg hh]
        show (if (z.2 : Int) < (pl : Int) then (z.2 : Int) else (pl : Int)) = min (pl : Int) (z.2 : Int)
        split <;> omega
      · exfalso; omega
end
end
section
variable {px : Bool} {x : Str} {due : List (List Nat × Nat)}
/-- what waits behind the taken ones -/
def Wait (due : List (List Nat × Nat)) (tk : Nat) (pb : Option Nat) : Prop :=
  (pb = none ∧ (∀ z y, due[tk]? = some z → due[tk - 1]? = some y → 1 ≤ tk → z.2 ≠ y.2)) ∨ (∃ c q y, 1 ≤ tk ∧ due[tk]? = some ([c], q) ∧ due[tk - 1]? = some y ∧ y.2 = q ∧ pb = some c)
structure LJ (px : Bool) (x : Str) (due : List (List Nat × Nat)) (tk : Nat) (s : Nat × LS × Option Nat) : Prop where
  le : tk ≤ due.length
  st : s.2.1 = .sp ∨ s.2.1 = .eof
  wt : Wait due tk s.2.2
  due : Due px x s (due.drop tk)
  ps : s.1 ≤ x.length
def rightOf (due : List (List Nat × Nat)) (tk hand : Nat) : List (List Nat × Nat) := if hand = 4 then due.drop tk else (due.drop tk).take 1
def placeOf (n hand : Nat) (r : List (List Nat × Nat)) : Int := if hand = 4 then (n : Int) else match r with | [] => (n : Int) | z :: _ => min (n : Int) (z.2 : Int)
theorem LJ.last : LJ px x due due.length (x.length, .eof, none) := ⟨Nat.le_refl _, .inr rfl, .inl ⟨rfl, fun z y h => by rw [List.getElem?_eq_none (Nat.le_refl _)] at h; cases h⟩, by rw [List.drop_length]; exact due_eof rfl, Nat.le_refl _⟩
theorem LJ.turn {tk hand : Nat} {s : Nat × LS × Option Nat} (h : LJ px x due tk s) (hh : hand ≤ 4) (hz : due.length ≤ 1000) :
    ∃ s', Take px x hand s ((rightOf due tk hand).map (·.1)) s' ∧ LJ px x due (tk + (rightOf due tk hand).length) s' ∧ (s'.1 : Int) = placeOf x.length hand (rightOf due tk hand) ∧ (due ≠ [] → 1 ≤ tk + (rightOf due tk hand).length) := by
  by_cases h4 : hand = 4
  · have e : rightOf due tk hand = due.drop tk := if_pos h4
    rw [e]
    have hl : tk + (due.drop tk).length = due.length := by rw [List.length_drop]; have := h.le; omega
    refine ⟨(x.length, .eof, none), .all h4 h.due.row (by rw [List.length_map, List.length_drop]; omega), by rw [hl]; exact .last, (if_pos h4).symm, fun hd => ?_⟩
    rw [hl]
    exact List.length_pos_iff.mpr hd
  · have e : rightOf due tk hand = (due.drop tk).take 1 := if_neg h4
    rw [e]
    have d := h.due
    generalize hr : due.drop tk = r at d
    cases d with
    | nil g =>
      have ht : tk = due.length := by
        have := congrArg List.length hr
        rw [List.length_drop, List.length_nil] at this
        have := h.le
        omega
      subst ht
      refine ⟨_, .none (by omega) g, .last, (if_neg h4).symm, fun hd => ?_⟩
      exact List.length_pos_iff.mpr hd
    | @cons _ s' t q l g hn hp hs r =>
      have hlt : tk < due.length := by
        have := congrArg List.length hr
        rw [List.length_drop, List.length_cons] at this
        omega
      have g0 : due[tk]? = some (t, q) := by
        have := congrArg (·[0]?) hr
        simpa using this
      have hd1 : due.drop (tk + 1) = l := by
        rw [← List.drop_drop, hr]; rfl
      have g1 : due[tk + 1]? = l[0]? := by
        rw [← hd1]; simp
      refine ⟨s', .one (by omega) g, ⟨hlt, hs, ?_, ?_, by rw [hn]; exact Nat.min_le_left _ _⟩, ?_, fun _ => Nat.succ_le_of_lt (Nat.succ_pos _)⟩
      · rcases hp with ⟨c, l', rfl, hc⟩ | ⟨hc, hne⟩
        · exact .inr ⟨c, q, (t, q), Nat.succ_pos _, g1, g0, rfl, hc⟩
        · refine .inl ⟨hc, fun z y hz hy _ => ?_⟩
          have hy' : due[tk]? = some y := hy
          rw [g0] at hy'
          cases hy'
          have hz' : due[tk + 1]? = some z := hz
          rw [g1] at hz'
          exact hne z (by rw [List.head?_eq_getElem?]; exact hz')
      · show Due px x s' (due.drop (tk + 1))
        rw [hd1]; exact r
      · rw [hn]
        show _ = placeOf x.length hand ((t, q) :: [])
        unfold placeOf
        rw [if_neg h4]
        show _ = min (x.length : Int) (q : Int)
        omega
end
theorem datDrop {A0 : List (Addr × Obj)} : ∀ (n : Nat) {vs : List Value} {ds : List Dat}, DatAll A0 vs ds → DatAll A0 (vs.drop n) (ds.drop n)
  | 0, _, _, h => h
  | _ + 1, _, _, .nil => .nil
  | n + 1, _, _, .cons _ r => datDrop n r
theorem datTake {A0 : List (Addr × Obj)} : ∀ (n : Nat) {vs : List Value} {ds : List Dat}, DatAll A0 vs ds → DatAll A0 (vs.take n) (ds.take n)
  | 0, _, _, _ => .nil
  | _ + 1, _, _, .nil => .nil
  | n + 1, _, _, .cons h r => .cons h (datTake n r)
theorem datRight {A0 : List (Addr × Obj)} {dus : List Value} {due : List (List Nat × Nat)} {n hand : Nat} {z : Int} (h : DatAll A0 dus (due.map tokD)) (hz : z = (hand : Int)) : DatAll A0 (if z = 4 then dus.drop n else (dus.drop n).take 1) ((rightOf due n hand).map tokD) := by
  subst hz
  unfold rightOf
  by_cases h4 : hand = 4
  · subst h4
    rw [if_pos rfl, if_pos (show ((4 : Nat) : Int) = 4 from rfl), List.map_drop]
    exact datDrop n h
  · rw [if_neg h4, if_neg (by omega), List.map_take, List.map_drop]
    exact datTake 1 (datDrop n h)
section
variable {lf : Addr} {lc : Value} {prog : Program} {w : World} {p : Program} {loose : List Str} {mean : ExcName → Option Value} {mg mb : Str → Option Value} {dp un : Nat} {gd : Option (List Code)} {L : Addr} {A₀ : Around} {base h₀ : Heap} {sh : Heap} {sg : Array GenState} {sd : Drawn} {sk : Nat} {so : OsState} {E : Value → Shared → Prop} {cx ce : Addr} {fx : List (Addr × Obj)}
  {px : Bool} {la lda ia ida pa fa : Addr} {D K : Nat → Tok} {s : Nat × LS × Option Nat}
theorem lx_news {x : Str} {rest rest' : List (Addr × Obj)} {n : Nat} {st : LS} {pb : Option Nat} {h : Heap} (H : LX w.params h₀ L la lda ia ida pa fa D K px x rest n st pb h) (hs : ∀ q ∈ rest', q ∈ rest) : News h₀ L h rest' := by
  obtain ⟨ts, tl, tt, tp, ln, pst, pvs, hp, N⟩ := H
  exact newsSub N fun q hq => .tail _ (.tail _ (.tail _ (.tail _ (.tail _ (.tail _ (hs q hq))))))
theorem lx_more {x : Str} {rest rest' : List (Addr × Obj)} {n : Nat} {st : LS} {pb : Option Nat} {h h' : Heap} (H : LX w.params h₀ L la lda ia ida pa fa D K px x rest n st pb h)
    (hN : ∀ six : List (Addr × Obj), News h₀ L h (six ++ rest) → News h₀ L h' (six ++ rest')) : LX w.params h₀ L la lda ia ida pa fa D K px x rest' n st pb h' := by
  obtain ⟨ts, tl, tt, tp, ln, pst, pvs, hp, N⟩ := H
  exact ⟨ts, tl, tt, tp, ln, pst, pvs, hp, hN [_, _, _, _, _, _] N⟩
theorem l2_turn {d : Int} {td te tkt tt : Tok} {dd : Addr} {dus : List Value} {c n hand : Nat} {m : Str → Option Value} {oX oE : Obj} {txt : List Nat} {due : List (List Nat × Nat)} {A0 : List (Addr × Obj)}
    (B : Below A₀ base [] h₀) (F : Fr h₀ L sh m) (hm : PsIn m [(Str.ofString "d", .int d td), (Str.ofString "due", .ref dd), (Str.ofString "taken", .int (n : Int) tkt), (Str.ofString "text", .str (S txt) tt)]) (X : (frag w.params).In h₀) (T : Top p loose mean mg mb h₀) (XB : (frag w.params).In base) (TB : Top p loose mean mg mb base)
    (H : LX w.params h₀ L la lda ia ida pa fa D K px (S txt) ((cx, oX) :: (ce, oE) :: (dd, listOf dus.toArray c) :: fx) s.1 s.2.1 s.2.2 sh)
    (hX : oX.data = .cell (some (.ref la))) (hE : oE.data = .cell (some (eofV px te))) (off : OwnOff ((cx, oX) :: (ce, oE) :: (dd, listOf dus.toArray c) :: fx) [ia, ida, la, lda, pa, fa]) (R : Ord6 lda la ida ia pa fa)
    (h0 : d.fdiv 7 = (hand : Int)) (hh : hand ≤ 4) (hj : LJ px (S txt) due n s) (hA : DatAll A0 dus (due.map tokD)) (sub : ∀ q ∈ A0, q ∈ fx) (hz : due.length ≤ 1000) (ok : ∀ z ∈ due, tokOk z.1) (hu : un + 64 < cLine) (hxz : txt.length ≤ 1000) (hd : dp + 20 < recursionLimit)
    {Q : Flow → Shared → Prop}
    (hq : ∀ h' k m' s' tk' tp', Fr h₀ L h' m' → LX w.params h₀ L la lda ia ida pa fa D K px (S txt) ((cx, oX) :: (ce, oE) :: (dd, listOf dus.toArray c) :: fx) s'.1 s'.2.1 s'.2.2 h' → LJ px (S txt) due (n + (rightOf due n hand).length) s' → (due ≠ [] → 1 ≤ n + (rightOf due n hand).length) →
      m' (Str.ofString "taken") = some (.int ((n + (rightOf due n hand).length : Nat) : Int) tk') → m' (Str.ofString "place") = some (.int (s'.1 : Int) tp') → m' (Str.ofString "due") = some (.ref dd) → m' (Str.ofString "text") = some (.str (S txt) tt) → Q .next ⟨h', sg, sd, k, so⟩) (hE' : PassesOwn (model prog w) (lwA lf lc dp un gd L [(Str.ofString "lex", cx), (Str.ofString "end", ce)]) (lwE lf lc L [(Str.ofString "lex", cx), (Str.ofString "end", ce)]) E := by passes_own) :
    wpAny (model prog w) (lwA lf lc dp un gd L [(Str.ofString "lex", cx), (Str.ofString "end", ce)]) (execs l2P.2 (lwE lf lc L [(Str.ofString "lex", cx), (Str.ofString "end", ce)])) Q E ⟨sh, sg, sd, sk, so⟩ := by
  obtain ⟨s', g, hj', hpl, hne⟩ := hj.turn hh hz
  obtain ⟨md, mdue, mtk, mtx, _⟩ := hm
  have hlen := hA.length
  rw [List.length_map] at hlen
  have hrl : (rightOf due n hand).length ≤ due.length := by unfold rightOf; split <;> simp <;> omega
  show wpAny _ _ (execs (stmtAt l2P.2 0 :: stmtAt l2P.2 1 :: stmtAt l2P.2 2 :: stmtAt l2P.2 3 :: stmtAt l2P.2 4 :: []) _) _ _ _
  refine wpAny_execs_cons ?_
  have hAr := datRight (n := n) hA h0
  have hrv := hAr.length
  rw [List.length_map] at hrv
  generalize hrvs : (if d.fdiv 7 = 4 then dus.drop n else (dus.drop n).take 1) = rvs at hAr hrv
  obtain ⟨ts, tl, tt', tp, ln, pst, pvs, hp, N⟩ := H
  refine b0 (c := c) (rest := (ia, instObj 587 ida) :: (ida, sioO w.params D (S txt) (s.1 : Int) tp) :: (la, instObj 722 lda) :: (lda, lexO w.params K px ia pa fa (s.2.1.val ts) ln tl (S []) tt') :: (pa, dequeO pst pvs) :: (fa, dequeO 0 []) :: (cx, oX) :: (ce, oE) :: fx) (frPack F _ ⟨md, mdue, mtk, trivial⟩) X (newsSub N ?_) T (by have := hj.le; omega) (by omega) hrvs.symm fun h1 k1 m1 rt lt1 F1 N1 e1 o1 => ?_
  · (repeat' (first | (with_reducible exact subR) | (with_reducible exact subN) | (with_reducible refine subC ?_ ?_) | (with_reducible exact List.mem_cons_self) | (refine List.mem_cons_of_mem _ ?_) | (refine subT ?_) | (with_reducible refine subL ?_)))
  have P0 : PsIn m [(Str.ofString "d", .int d td), (Str.ofString "due", .ref dd), (Str.ofString "taken", .int (n : Int) tkt)] := ⟨md, mdue, mtk, trivial⟩
  have o1' : ∀ y, y ≠ Str.ofString "right" → m1 y = m y := fun y hy => (o1 y hy).trans (congrFun (kstB_self P0.all) y)
  have H1 : LX w.params h₀ L la lda ia ida pa fa D K px (S txt) ((cx, oX) :: (ce, oE) :: (rt, listOf rvs.toArray 0) :: (dd, listOf dus.toArray c) :: fx) s.1 s.2.1 s.2.2 h1 := ⟨ts, tl, tt', tp, ln, pst, pvs, hp, newsSub N1 (by (repeat' (first | (with_reducible exact subR) | (with_reducible exact subN) | (with_reducible refine subC ?_ ?_) | (with_reducible exact List.mem_cons_self) | (refine List.mem_cons_of_mem _ ?_) | (refine subT ?_) | (with_reducible refine subL ?_))))⟩
  have lt2 : ∀ b ∈ [ia, ida, la, lda, pa, fa], @LT.lt Nat _ b rt := by
    intro b hb
    simp only [List.mem_cons, List.not_mem_nil, or_false] at hb
    rcases hb with rfl | rfl | rfl | rfl | rfl | rfl
    · exact lt1 (_, _) (.tail _ (.head _))
    · exact lt1 (_, _) (.tail _ (.tail _ (.head _)))
    · exact lt1 (_, _) (.tail _ (.tail _ (.tail _ (.head _))))
    · exact lt1 (_, _) (.tail _ (.tail _ (.tail _ (.tail _ (.head _)))))
    · exact lt1 (_, _) (.tail _ (.tail _ (.tail _ (.tail _ (.tail _ (.head _))))))
    · exact lt1 (_, _) (.tail _ (.tail _ (.tail _ (.tail _ (.tail _ (.tail _ (.head _)))))))
  have off1 : OwnOff ((cx, oX) :: (ce, oE) :: (rt, listOf rvs.toArray 0) :: (dd, listOf dus.toArray c) :: fx) [ia, ida, la, lda, pa, fa] := by
    intro q hq b hb
    simp only [List.mem_cons] at hq
    rcases hq with h | h | h | h | h
    · exact off q (by ((first | (refine memEq h ?_) | (refine memIn h ?_)) <;> (repeat' (first | (with_reducible exact subR) | (with_reducible exact subN) | (with_reducible refine subC ?_ ?_) | (with_reducible exact List.mem_cons_self) | (refine List.mem_cons_of_mem _ ?_) | (refine subT ?_) | (with_reducible refine subL ?_))))) b hb
    · exact off q (by ((first | (refine memEq h ?_) | (refine memIn h ?_)) <;> (repeat' (first | (with_reducible exact subR) | (with_reducible exact subN) | (with_reducible refine subC ?_ ?_) | (with_reducible exact List.mem_cons_self) | (refine List.mem_cons_of_mem _ ?_) | (refine subT ?_) | (with_reducible refine subL ?_))))) b hb
    · subst h; exact neN (Nat.ne_of_gt (lt2 b hb))
    · exact off q (by ((first | (refine memEq h ?_) | (refine memIn h ?_)) <;> (repeat' (first | (with_reducible exact subR) | (with_reducible exact subN) | (with_reducible refine subC ?_ ?_) | (with_reducible exact List.mem_cons_self) | (refine List.mem_cons_of_mem _ ?_) | (refine subT ?_) | (with_reducible refine subL ?_))))) b hb
    · exact off q (by ((first | (refine memEq h ?_) | (refine memIn h ?_)) <;> (repeat' (first | (with_reducible exact subR) | (with_reducible exact subN) | (with_reducible refine subC ?_ ?_) | (with_reducible exact List.mem_cons_self) | (refine List.mem_cons_of_mem _ ?_) | (refine subT ?_) | (with_reducible refine subL ?_))))) b hb
  have okr : ∀ z ∈ rightOf due n hand, tokOk z.1 := fun z hz => ok z (by
    unfold rightOf at hz
    split at hz
    · exact List.mem_of_mem_drop hz
    · exact List.mem_of_mem_drop (List.mem_of_mem_take hz))
  have okt : ∀ l ∈ (rightOf due n hand).map (·.1), tokOk l := by
    intro l hl
    obtain ⟨z, hz, rfl⟩ := List.mem_map.mp hl
    exact okr z hz
  have P1 : PsIn m1 [(Str.ofString "d", .int d td), (Str.ofString "right", .ref rt)] := ⟨(o1' (Str.ofString "d") (by decide)).trans md, e1, trivial⟩
  refine wpAny_execs_cons (b1 B (frPack F1 _ P1) X T XB TB H1 hX hE off1 R h0 g hAr sub (by omega) rfl okt hu (by rw [S_len]; omega) hd fun h2 k2 F2 H2 => ?_)
  rw [kstB_self P1.all] at F2
  obtain ⟨ts2, tl2, tt2, tp2, ln2, pst2, pvs2, hp2, N2⟩ := H2
  have P2 : PsIn m1 [(Str.ofString "right", .ref rt), (Str.ofString "taken", .int (n : Int) tkt), (Str.ofString "text", .str (S txt) tt)] := ⟨e1, (o1' (Str.ofString "taken") (by decide)).trans mtk, (o1' (Str.ofString "text") (by decide)).trans mtx, trivial⟩
  refine b23 (c := 0) (rvs := rvs) (rt := rt) (news := (ia, instObj 587 ida) :: (ida, sioO w.params D (S txt) (s'.1 : Int) tp2) :: (la, instObj 722 lda) :: (lda, lexO w.params K px ia pa fa (s'.2.1.val ts2) ln2 tl2 (S []) tt2) :: (pa, dequeO pst2 pvs2) :: (fa, dequeO 0 []) :: (cx, oX) :: (ce, oE) :: (dd, listOf dus.toArray c) :: fx) (frPack F2 _ P2) X (newsSub N2 ?_) T (by have := hj.le; omega) (by omega) hxz (S_len txt) hAr hrv.symm fun h3 k3 m3 tk3 tp3 F3 N3 e3 p3 o3 => ?_
  · (repeat' (first | (with_reducible exact subR) | (with_reducible exact subN) | (with_reducible refine subC ?_ ?_) | (with_reducible exact List.mem_cons_self) | (refine List.mem_cons_of_mem _ ?_) | (refine subT ?_) | (with_reducible refine subL ?_)))
  have o3' : ∀ y, y ≠ Str.ofString "taken" → y ≠ Str.ofString "place" → m3 y = m1 y := fun y h1 h2 => (o3 y h1 h2).trans (congrFun (kstB_self P2.all) y)
  have P3 : PsIn m3 [(Str.ofString "d", .int d td), (Str.ofString "right", .ref rt), (Str.ofString "place", .int (txt.length : Int) tp3)] := ⟨(o3' (Str.ofString "d") (by decide) (by decide)).trans P1.1, (o3' (Str.ofString "right") (by decide) (by decide)).trans e1, p3, trivial⟩
  refine wpAny_execs_cons (b4 (frPack F3 _ P3) X N3 T h0 (by omega) hAr (fun q hq => .tail _ (.tail _ (.tail _ (.tail _ (.tail _ (.tail _ (.tail _ (.tail _ (.tail _ (sub q hq)))))))))) okr (fun h => ?_) hu fun h4 k4 m4 tp4 pl4 F4 N4 p4 q4 o4 => ?_)
  · rw [hrv]; unfold rightOf; rw [if_neg h]; simp; omega
  have o4' : ∀ y, y ≠ Str.ofString "place" → m4 y = m3 y := fun y h1 => (o4 y h1).trans (congrFun (kstB_self P3.all) y)
  refine wpAny_execs_nil ?_
  refine hq h4 k4 m4 s' tk3 tp4 F4 ⟨ts2, tl2, tt2, tp2, ln2, pst2, pvs2, hp2, newsTail N4⟩ hj' hne ?_ ?_ ?_ ?_
  · rw [o4' _ (by decide), ← hrv]; exact e3
  · rw [S_len] at hpl
    rw [hpl, p4, q4]; rfl
  · exact (o4' _ (by decide)).trans ((o3' _ (by decide) (by decide)).trans ((o1' _ (by decide)).trans mdue))
  · exact (o4' _ (by decide)).trans ((o3' _ (by decide) (by decide)).trans ((o1' _ (by decide)).trans mtx))
end
theorem handOf {d : Int} (h : 0 ≤ d ∧ d < 35) : d.fdiv 7 = ((d.fdiv 7).toNat : Int) ∧ (d.fdiv 7).toNat ≤ 4 := by
  rw [Int.fdiv_eq_ediv_of_nonneg _ (by decide)]
  omega
section
variable {lf : Addr} {lc : Value} {prog : Program} {w : World} {p : Program} {loose : List Str} {mean : ExcName → Option Value} {mg mb : Str → Option Value} {dp un : Nat} {gd : Option (List Code)} {L : Addr} {A₀ : Around} {base h₀ : Heap} {sh : Heap} {sg : Array GenState} {sd : Drawn} {sk : Nat} {so : OsState} {E : Value → Shared → Prop} {cx ce : Addr} {fx : List (Addr × Obj)}
  {px : Bool} {la lda ia ida pa fa : Addr} {D K : Nat → Tok}
theorem loop2 {te tkt tt : Tok} {dd dl : Addr} {dus us : List Value} {ds : List Int} {c cd : Nat} {m : Str → Option Value} {oX oE : Obj} {txt : List Nat} {due : List (List Nat × Nat)} {A0 : List (Addr × Obj)}
    (B : Below A₀ base [] h₀) (F : Fr h₀ L sh m) (hm : PsIn m [(Str.ofString "due", .ref dd), (Str.ofString "taken", .int ((0 : Nat) : Int) tkt), (Str.ofString "text", .str (S txt) tt), (Str.ofString "digits", .ref dl)]) (X : (frag w.params).In h₀) (T : Top p loose mean mg mb h₀) (XB : (frag w.params).In base) (TB : Top p loose mean mg mb base)
    (H : LX w.params h₀ L la lda ia ida pa fa D K px (S txt) ((cx, oX) :: (ce, oE) :: (dd, listOf dus.toArray c) :: fx) 0 .sp none sh)
    (hX : oX.data = .cell (some (.ref la))) (hE : oE.data = .cell (some (eofV px te))) (off : OwnOff ((cx, oX) :: (ce, oE) :: (dd, listOf dus.toArray c) :: fx) [ia, ida, la, lda, pa, fa]) (R : Ord6 lda la ida ia pa fa)
    (hj : LJ px (S txt) due 0 (0, .sp, none)) (hA : DatAll A0 dus (due.map tokD)) (sub : ∀ q ∈ A0, q ∈ fx) (hz : due.length ≤ 1000) (ok : ∀ z ∈ due, tokOk z.1) (hu : un + 64 < cLine) (hxz : txt.length ≤ 1000) (hd : dp + 20 < recursionLimit)
    (hdl : (dl, listOf us.toArray cd) ∈ fx) (hi : IntsAre us ds) (hne : ds ≠ []) (hrg : ∀ d ∈ ds, 0 ≤ d ∧ d < 35)
    {Q : Flow → Shared → Prop}
    (hq : ∀ h' k m' s' n tk' tp', Fr h₀ L h' m' → LX w.params h₀ L la lda ia ida pa fa D K px (S txt) ((cx, oX) :: (ce, oE) :: (dd, listOf dus.toArray c) :: fx) s'.1 s'.2.1 s'.2.2 h' → LJ px (S txt) due n s' → (due ≠ [] → 1 ≤ n) →
      m' (Str.ofString "taken") = some (.int (n : Int) tk') → m' (Str.ofString "place") = some (.int (s'.1 : Int) tp') → m' (Str.ofString "due") = some (.ref dd) → m' (Str.ofString "text") = some (.str (S txt) tt) → Q .next ⟨h', sg, sd, k, so⟩) (hE' : PassesOwn (model prog w) (lwA lf lc dp un gd L [(Str.ofString "lex", cx), (Str.ofString "end", ce)]) (lwE lf lc L [(Str.ofString "lex", cx), (Str.ofString "end", ce)]) E := by passes_own) :
    wpAny (model prog w) (lwA lf lc dp un gd L [(Str.ofString "lex", cx), (Str.ofString "end", ce)]) (exec (stmtAt ast_law.1.2.1 11) (lwE lf lc L [(Str.ofString "lex", cx), (Str.ofString "end", ce)])) Q E ⟨sh, sg, sd, sk, so⟩ := by
  have hul := IntsAre.length hi
  obtain ⟨mdue, mtk, mtx, mdl, _⟩ := hm
  obtain ⟨ts, tl, tt', tp, ln, pst, pvs, hp, N⟩ := H
  show wpAny _ _ (exec (.For (.Name (Str.ofString "d") _) (.Name (Str.ofString "digits") _) l2P.2 [] _) _) _ _ _
  refine For_invVF F rfl rfl (nameX_L F mdl ?_) (fun _ => rfl) hE'
  refine kdl_iter (nn := cd) (fun i m nx => ∃ s n tkt tpt ts tl tt' tp ln pst pvs, PbV s.2.2 pvs ∧ nx = (ia, instObj 587 ida) :: (ida, sioO w.params D (S txt) (s.1 : Int) tp) :: (la, instObj 722 lda) :: (lda, lexO w.params K px ia pa fa (LS.val s.2.1 ts) ln tl (S []) tt') :: (pa, dequeO pst pvs) :: (fa, dequeO 0 []) :: (cx, oX) :: (ce, oE) :: (dd, listOf dus.toArray c) :: fx ∧ LJ px (S txt) due n s ∧ (0 < i → (due ≠ [] → 1 ≤ n) ∧ m (Str.ofString "place") = some (.int (s.1 : Int) tpt)) ∧ m (Str.ofString "taken") = some (.int (n : Int) tkt) ∧ m (Str.ofString "due") = some (.ref dd) ∧ m (Str.ofString "text") = some (.str (S txt) tt))
    rfl (.tail _ (.tail _ (.tail _ (.tail _ (.tail _ (.tail _ (.tail _ (.tail _ (.tail _ hdl))))))))) F N ⟨(0, .sp, none), 0, tkt, 0, ts, tl, tt', tp, ln, pst, pvs, hp, rfl, hj, fun h => absurd h (Nat.lt_irrefl _), mtk, mdue, mtx⟩ ?_ ?_
  · rintro i v m₁ nx h tk own hv hoff _ ⟨s, n, tkt1, tpt1, ts1, tl1, tt1, tp1, ln1, pst1, pvs1, hp1, rfl, hj1, _, m1, m2, m3⟩ F₁ N₁
    have hi' : i < ds.length := by rw [← hul]; exact (List.getElem?_eq_some_iff.mp hv).1
    obtain ⟨t, hx⟩ := hi.get i (ds[i]'hi') (List.getElem?_eq_getElem hi')
    have ev : v = .int (ds[i]'hi') t := (Option.some.inj (hx.symm.trans hv)).symm
    subst ev
    obtain ⟨h0, h4⟩ := handOf (hrg (ds[i]'hi') (List.getElem_mem _))
    have off' : OwnOff ((cx, oX) :: (ce, oE) :: (dd, listOf dus.toArray c) :: (fx ++ own)) [ia, ida, la, lda, pa, fa] := fun q hq b hb => by
      simp only [List.mem_cons, List.mem_append] at hq
      rcases hq with h | h | h | h | h
      · exact off q (by ((first | (refine memEq h ?_) | (refine memIn h ?_)) <;> (repeat' (first | (with_reducible exact subR) | (with_reducible exact subN) | (with_reducible refine subC ?_ ?_) | (with_reducible exact List.mem_cons_self) | (refine List.mem_cons_of_mem _ ?_) | (refine subT ?_) | (with_reducible refine subL ?_))))) b hb
      · exact off q (by ((first | (refine memEq h ?_) | (refine memIn h ?_)) <;> (repeat' (first | (with_reducible exact subR) | (with_reducible exact subN) | (with_reducible refine subC ?_ ?_) | (with_reducible exact List.mem_cons_self) | (refine List.mem_cons_of_mem _ ?_) | (refine subT ?_) | (with_reducible refine subL ?_))))) b hb
      · exact off q (by ((first | (refine memEq h ?_) | (refine memIn h ?_)) <;> (repeat' (first | (with_reducible exact subR) | (with_reducible exact subN) | (with_reducible refine subC ?_ ?_) | (with_reducible exact List.mem_cons_self) | (refine List.mem_cons_of_mem _ ?_) | (refine subT ?_) | (with_reducible refine subL ?_))))) b hb
      · exact off q (by ((first | (refine memEq h ?_) | (refine memIn h ?_)) <;> (repeat' (first | (with_reducible exact subR) | (with_reducible exact subN) | (with_reducible refine subC ?_ ?_) | (with_reducible exact List.mem_cons_self) | (refine List.mem_cons_of_mem _ ?_) | (refine subT ?_) | (with_reducible refine subL ?_))))) b hb
      · refine hoff q h b ?_
        simp only [List.mem_cons, List.not_mem_nil, or_false] at hb
        simp only [List.map_cons, List.mem_cons]
        rcases hb with h | h | h | h | h | h <;> simp [h]
    have H1 : LX w.params h₀ L la lda ia ida pa fa D K px (S txt) ((cx, oX) :: (ce, oE) :: (dd, listOf dus.toArray c) :: (fx ++ own)) s.1 s.2.1 s.2.2 h := ⟨ts1, tl1, tt1, tp1, ln1, pst1, pvs1, hp1, N₁⟩
    refine l2_turn (te := te) (tkt := tkt1) (d := ds[i]'hi') (td := t) (m := fun y => if y = Str.ofString "d" then some (.int (ds[i]'hi') t) else m₁ y) B F₁ ⟨if_pos rfl, (if_neg (show ¬ Str.ofString "due" = Str.ofString "d" by decide)).trans m2, (if_neg (show ¬ Str.ofString "taken" = Str.ofString "d" by decide)).trans m1, (if_neg (show ¬ Str.ofString "text" = Str.ofString "d" by decide)).trans m3, trivial⟩ X T XB TB H1 hX hE off' R h0 h4 hj1 hA (fun q hq => List.mem_append.mpr (.inl (sub q hq))) hz ok hu hxz hd fun h2 k2 m' s' tk' tp' F2 H2 hj2 hne2 e1 e2 e3 e4 => ?_
    obtain ⟨ts2, tl2, tt2, tp2, ln2, pst2, pvs2, hp2, N2⟩ := H2
    refine ⟨h2, k2, m', _, (ia, instObj 587 ida) :: (ida, sioO w.params D (S txt) (s'.1 : Int) tp2) :: (la, instObj 722 lda) :: (lda, lexO w.params K px ia pa fa (LS.val s'.2.1 ts2) ln2 tl2 (S []) tt2) :: (pa, dequeO pst2 pvs2) :: (fa, dequeO 0 []) :: (cx, oX) :: (ce, oE) :: (dd, listOf dus.toArray c) :: fx, rfl, F2, N2, fun q hq => ?_, fun q hq => ?_, ?_, ?_, s', _, tk', tp', ts2, tl2, tt2, tp2, ln2, pst2, pvs2, hp2, rfl, hj2, fun _ => ⟨hne2, e2⟩, e1, e3, e4⟩
    · revert q; (repeat' (first | (with_reducible exact subR) | (with_reducible exact subN) | (with_reducible refine subC ?_ ?_) | (with_reducible exact List.mem_cons_self) | (refine List.mem_cons_of_mem _ ?_) | (refine subT ?_) | (with_reducible refine subL ?_)))
    · simp only [List.mem_cons, List.mem_append]
      simp [hq]
    · intro q hq b hb
      exact hoff q hq b hb
    · exact .tail _ (.tail _ (.tail _ (.tail _ (.tail _ (.tail _ (.tail _ (.tail _ (.tail _ hdl))))))))
  · rintro m₁ nx h tk ⟨s, n, tkt1, tpt1, ts1, tl1, tt1, tp1, ln1, pst1, pvs1, hp1, rfl, hj1, h1, m1, m2, m3⟩ F₁ N₁
    obtain ⟨a, b⟩ := h1 (by rw [hul]; exact List.length_pos_iff.mpr hne)
    exact hq h tk m₁ s n tkt1 tpt1 F₁ ⟨ts1, tl1, tt1, tp1, ln1, pst1, pvs1, hp1, N₁⟩ hj1 a m1 b m2 m3
end
section
local macro_rules | `(tactic| walk_at "call ref") => `(tactic| ((with_reducible show wpAny _ _ (call (Value.ref 533) _) _ _ _); k_dflt 
  (refine' read1 ?B ?F ?X ?N ?off ?T ?hk ?hat ?hz ?hlt ?hd ?_; (case B => k_asm); (case F => k_asm); (case X => k_asm); (case N => k_asm); (case off => exact offRead (by assumption) (by assumption)); (case T => k_asm); (case hk => rfl); (case hat => assumption); (case hz => assumption); (case hlt => exact Ord6.c (by assumption)); (case hd => ktr_room); intro h' tk' t' tp' F' N'; (try k_sweep))))
noncomputable def whP : Expr × List Stmt := match stmtAt ast_law.1.2.1 14 with | .While t b _ _ => (t, b) | _ => (default, [])
theorem S_inj {a b : List Nat} (h : S a = S b) : a = b := congrArg (fun s : Str => s.cps.toList) h
theorem S_bne_nil (a : List Nat) : (S a != S []) = !a.isEmpty := by
  cases a with
  | nil => exact bne_self_eq_false _
  | cons c r => exact bne_iff_ne.mpr fun h => nomatch S_inj h
theorem dropSlice {txt r : List Nat} {n : Nat} (h : At (S txt) n r) : PySem.Txt.slice (S txt) (some (n : Int)) none = S r := by
  have h1 := h.len
  rw [S_len] at h1
  have e : PySem.Txt.slice (S txt) (some (n : Int)) none = PySem.Txt.slice (S txt) (some (n : Int)) (some ((txt.length : Nat) : Int)) := by
    unfold PySem.Txt.slice
    rw [StrLaws.sliceIdx_none_hi, S_len]
  rw [e, slice_nat (S txt) (by omega) (by rw [S_len]; exact Nat.le_refl _), h.1, List.take_of_length_le (by omega)]
section
variable {lf : Addr} {lc : Value} {prog : Program} {w : World} {p : Program} {loose : List Str} {mean : ExcName → Option Value} {mg mb : Str → Option Value} {dp un : Nat} {gd : Option (List Code)} {L : Addr} {A₀ : Around} {base h₀ : Heap} {sh : Heap} {sg : Array GenState} {sd : Drawn} {sk : Nat} {so : OsState} {E : Value → Shared → Prop} {cx ce : Addr} {rest : List (Addr × Obj)}
  {px : Bool} {x : Str} {la lda ia ida pa fa : Addr} {D K : Nat → Tok} {oX : Obj} {n : Nat} {st : LS} {pb : Option Nat} {r : List Nat} {m : Str → Option Value}
theorem readS (B : Below A₀ base [] h₀) (F : Fr h₀ L sh m) (X : (frag w.params).In h₀) (T : Top p loose mean mg mb h₀)
    (H : LX w.params h₀ L la lda ia ida pa fa D K px x ((cx, oX) :: rest) n st pb sh) (hX : oX.data = .cell (some (.ref la))) (off : OwnOff ((cx, oX) :: rest) [ia, ida, la, lda, pa, fa]) (R : Ord6 lda la ida ia pa fa)
    (hat : At x n r) (hz : x.length ≤ 100000) (hd : dp + 20 < recursionLimit)
    {Q : Flow → Shared → Prop}
    (hq : ∀ h' k t', Fr h₀ L h' (fun y => if y = Str.ofString "sign" then some (.str (S (r.take 1)) t') else m y) → LX w.params h₀ L la lda ia ida pa fa D K px x ((cx, oX) :: rest) (n + (r.take 1).length) st pb h' → Q .next ⟨h', sg, sd, k, so⟩) :
    wpAny (model prog w) (lwA lf lc dp un gd L [(Str.ofString "lex", cx), (Str.ofString "end", ce)]) (exec (stmtAt ast_law.1.2.1 13) (lwE lf lc L [(Str.ofString "lex", cx), (Str.ofString "end", ce)])) Q E ⟨sh, sg, sd, sk, so⟩ := by
  obtain ⟨ts0, tl0, tt0, tp0, ln0, pst0, pvs0, hp0, N0⟩ := H
  show wpAny _ _ (exec (.Assign _ _ _) _) _ _ _
  k_steps
  exact hq _ _ _ (by assumption) ⟨_, _, _, _, _, _, _, by assumption, by assumption⟩
theorem readS2 (B : Below A₀ base [] h₀) (F : Fr h₀ L sh m) (X : (frag w.params).In h₀) (T : Top p loose mean mg mb h₀)
    (H : LX w.params h₀ L la lda ia ida pa fa D K px x ((cx, oX) :: rest) n st pb sh) (hX : oX.data = .cell (some (.ref la))) (off : OwnOff ((cx, oX) :: rest) [ia, ida, la, lda, pa, fa]) (R : Ord6 lda la ida ia pa fa)
    (hat : At x n r) (hz : x.length ≤ 100000) (hd : dp + 20 < recursionLimit)
    {Q : Flow → Shared → Prop}
    (hq : ∀ h' k t', Fr h₀ L h' (fun y => if y = Str.ofString "sign" then some (.str (S (r.take 1)) t') else m y) → LX w.params h₀ L la lda ia ida pa fa D K px x ((cx, oX) :: rest) (n + (r.take 1).length) st pb h' → Q .next ⟨h', sg, sd, k, so⟩) :
    wpAny (model prog w) (lwA lf lc dp un gd L [(Str.ofString "lex", cx), (Str.ofString "end", ce)]) (exec (stmtAt whP.2 1) (lwE lf lc L [(Str.ofString "lex", cx), (Str.ofString "end", ce)])) Q E ⟨sh, sg, sd, sk, so⟩ := by
  obtain ⟨ts0, tl0, tt0, tp0, ln0, pst0, pvs0, hp0, N0⟩ := H
  show wpAny _ _ (exec (.Assign _ _ _) _) _ _ _
  k_steps
  exact hq _ _ _ (by assumption) ⟨_, _, _, _, _, _, _, by assumption, by assumption⟩
theorem addS {acc sg1 : List Nat} {ta ts : Tok} {news : List (Addr × Obj)} {cl : List (Str × Addr)} {u : Str → Option Value}
    (F : Fr h₀ L sh (kstB u [(Str.ofString "rest", .str (S acc) ta), (Str.ofString "sign", .str (S sg1) ts)])) (N : News h₀ L sh news) (X : (frag w.params).In h₀) (hz : (S acc).length ≤ 1000) (hzw : (S sg1).length ≤ 100)
    {Q : Flow → Shared → Prop}
    (hq : ∀ h' k t', Fr h₀ L h' (fun z => if z = Str.ofString "rest" then some (.str (S acc ++ S sg1) t') else kstB u [(Str.ofString "rest", .str (S acc) ta), (Str.ofString "sign", .str (S sg1) ts)] z) → News h₀ L h' news → Q .next ⟨h', sg, sd, k, so⟩) :
    wpAny (model prog w) (lwA lf lc dp un gd L cl) (exec (stmtAt whP.2 0) (lwE lf lc L cl)) Q E ⟨sh, sg, sd, sk, so⟩ := by
  show wpAny _ _ (exec (.AugAssign _ _ _ _) _) _ _ _
  k_steps
  refine wpAny_loadName_local rfl rfl F.ns rfl ?_
  k_steps
  exact hq _ _ _ (by assumption) (by assumption)
theorem testS {sg1 : List Nat} {ts : Tok} {cl : List (Str × Addr)} {u : Str → Option Value} {news : List (Addr × Obj)}
    (F : Fr h₀ L sh (kstB u [(Str.ofString "sign", .str (S sg1) ts)])) (X : (frag w.params).In h₀) (N : News h₀ L sh news) (hz : (S sg1).length ≤ 100)
    {Q : Bool → Shared → Prop}
    (hq : ∀ k, Q (!sg1.isEmpty) ⟨sh, sg, sd, k, so⟩) :
    wpAny (model prog w) (lwA lf lc dp un gd L cl) (isTrue whP.1 (lwE lf lc L cl) (eval whP.1 (lwE lf lc L cl))) Q E ⟨sh, sg, sd, sk, so⟩ := by
  show wpAny _ _ (isTrue (.Compare _ _ _ _) _ _) _ _ _
  k_steps
  rw [strEmpty, S_bne_nil]
  exact hq _
end
end
section
variable {lf : Addr} {lc : Value} {prog : Program} {w : World} {p : Program} {loose : List Str} {mean : ExcName → Option Value} {mg mb : Str → Option Value} {dp un : Nat} {gd : Option (List Code)} {L : Addr} {A₀ : Around} {base h₀ : Heap} {sh : Heap} {sg : Array GenState} {sd : Drawn} {sk : Nat} {so : OsState} {E : Value → Shared → Prop} {cx ce : Addr} {rest : List (Addr × Obj)}
  {px : Bool} {x : Str} {la lda ia ida pa fa : Addr} {D K : Nat → Tok} {oX : Obj} {n : Nat} {st : LS} {pb : Option Nat} {r : List Nat} {m : Str → Option Value}
theorem loop3 {t0 : Tok} (B : Below A₀ base [] h₀) (F : Fr h₀ L sh m) (hm : m (Str.ofString "rest") = some (.str (S []) t0)) (X : (frag w.params).In h₀) (T : Top p loose mean mg mb h₀)
    (H : LX w.params h₀ L la lda ia ida pa fa D K px x ((cx, oX) :: rest) n st pb sh) (hX : oX.data = .cell (some (.ref la))) (off : OwnOff ((cx, oX) :: rest) [ia, ida, la, lda, pa, fa]) (R : Ord6 lda la ida ia pa fa)
    (hat : At x n r) (hz : x.length ≤ 1000) (hd : dp + 20 < recursionLimit)
    {Q : Flow → Shared → Prop} {rs : List Stmt}
    (hq : ∀ h' k m' t', Fr h₀ L h' m' → m' (Str.ofString "rest") = some (.str (S r) t') → (∀ y, y ≠ Str.ofString "rest" → y ≠ Str.ofString "sign" → m' y = m y) → LX w.params h₀ L la lda ia ida pa fa D K px x ((cx, oX) :: rest) x.length st pb h' → wpAny (model prog w) (lwA lf lc dp un gd L [(Str.ofString "lex", cx), (Str.ofString "end", ce)]) (execs rs (lwE lf lc L [(Str.ofString "lex", cx), (Str.ofString "end", ce)])) Q E ⟨h', sg, sd, k, so⟩) (hE' : PassesOwn (model prog w) (lwA lf lc dp un gd L [(Str.ofString "lex", cx), (Str.ofString "end", ce)]) (lwE lf lc L [(Str.ofString "lex", cx), (Str.ofString "end", ce)]) E := by passes_own) :
    wpAny (model prog w) (lwA lf lc dp un gd L [(Str.ofString "lex", cx), (Str.ofString "end", ce)]) (execs (stmtAt ast_law.1.2.1 13 :: stmtAt ast_law.1.2.1 14 :: rs) (lwE lf lc L [(Str.ofString "lex", cx), (Str.ofString "end", ce)])) Q E ⟨sh, sg, sd, sk, so⟩ := by
  have hxl := hat.len
  refine wpAny_execs_cons (readS B F X T H hX off R hat (by omega) hd fun h1 k1 t1 F1 H1 => ?_)
  obtain ⟨ts, tl, tt', tp, ln, pst, pvs, hp, N⟩ := H1
  refine wpAny_execs_cons ?_
  show wpAny _ _ (exec (.While whP.1 whP.2 [] _) _) _ _ _
  refine While_inv2 (n₀ := r.length) (fun j m' nx => ∃ acc r1 n1 ta ts' ts tl tt' tp ln pst pvs, j = r1.length ∧ acc ++ r1 = r ∧ At x n1 r1 ∧ PbV pb pvs ∧ nx = (ia, instObj 587 ida) :: (ida, sioO w.params D x ((n1 + (r1.take 1).length : Nat) : Int) tp) :: (la, instObj 722 lda) :: (lda, lexO w.params K px ia pa fa (LS.val st ts) ln tl (S []) tt') :: (pa, dequeO pst pvs) :: (fa, dequeO 0 []) :: (cx, oX) :: rest ∧ m' (Str.ofString "rest") = some (.str (S acc) ta) ∧ m' (Str.ofString "sign") = some (.str (S (r1.take 1)) ts') ∧ (∀ y, y ≠ Str.ofString "rest" → y ≠ Str.ofString "sign" → m' y = m y))
    F1 N ⟨[], r, n, t0, t1, ts, tl, tt', tp, ln, pst, pvs, rfl, rfl, hat, hp, rfl, (if_neg (by decide)).trans hm, if_pos rfl, fun y _ h2 => if_neg h2⟩ ?_ hE'
  rintro j m1 _ h tk F2 N2 ⟨acc, r1, n1, ta, ts', ts, tl, tt', tp, ln, pst, pvs, rfl, hr, hat1, hp, rfl, e1, e2, e3⟩
  have ha := congrArg List.length hr
  rw [List.length_append] at ha
  have P1 : PsIn m1 [(Str.ofString "sign", .str (S (r1.take 1)) ts')] := ⟨e2, trivial⟩
  refine testS (frPack F2 _ P1) X N2 (by rw [S_len]; simp; omega) fun k2 => ?_
  cases r1 with
  | nil =>
    have en : n1 = x.length := hat1.len
    subst en
    rw [List.append_nil] at hr
    subst hr
    exact hq _ _ _ _ F2 e1 e3 ⟨_, _, _, _, _, _, _, hp, N2⟩
  | cons c r2 =>
    have P2 : PsIn m1 [(Str.ofString "rest", .str (S acc) ta), (Str.ofString "sign", .str (S [c]) ts')] := ⟨e1, e2, trivial⟩
    show wpAny _ _ (execs (stmtAt whP.2 0 :: stmtAt whP.2 1 :: []) _) _ _ _
    refine wpAny_execs_cons (addS (frPack F2 _ P2) N2 X (by rw [S_len]; omega) (by rw [S_len]; simp) fun h3 k3 t3 F3 N3 => ?_)
    have H3 : LX w.params h₀ L la lda ia ida pa fa D K px x ((cx, oX) :: rest) (n1 + 1) st pb h3 := ⟨_, _, _, _, _, _, _, hp, N3⟩
    refine wpAny_execs_cons (readS2 B F3 X T H3 hX off R hat1.tail (by omega) hd fun h4 k4 t4 F4 H4 => ?_)
    obtain ⟨ts5, tl5, tt5, tp5, ln5, pst5, pvs5, hp5, N5⟩ := H4
    refine wpAny_execs_nil ⟨h4, k4, _, _, r2.length, rfl, F4, N5, Nat.lt_succ_self _, acc ++ [c], r2, n1 + 1, t3, t4, ts5, tl5, tt5, tp5, ln5, pst5, pvs5, rfl, by rw [List.append_assoc]; exact hr, hat1.tail, hp5, rfl, ?_, if_pos rfl, fun y h1 h2 => ?_⟩
    · rw [← S_append]
      exact (if_neg (by decide)).trans (if_pos rfl)
    · exact (if_neg h2).trans ((if_neg h1).trans ((congrFun (kstB_self P2.all) y).trans (e3 y h1 h2)))
theorem s15 {tt tr tp : Tok} {cl : List (Str × Addr)} {txt : List Nat} {news : List (Addr × Obj)} {u : Str → Option Value}
    (F : Fr h₀ L sh (kstB u [(Str.ofString "rest", .str (S r) tr), (Str.ofString "text", .str (S txt) tt), (Str.ofString "place", .int (n : Int) tp)])) (N : News h₀ L sh news) (X : (frag w.params).In h₀) (T : Top p loose mean mg mb h₀) (hat : At (S txt) n r) (hz : txt.length ≤ 1000) (hl : (S txt).length = txt.length) (hl' : (S r).length = r.length)
    {Q : Flow → Shared → Prop}
    (hq : ∀ h' k, Fr h₀ L h' (kstB u [(Str.ofString "rest", .str (S r) tr), (Str.ofString "text", .str (S txt) tt), (Str.ofString "place", .int (n : Int) tp)]) → News h₀ L h' news → Q .next ⟨h', sg, sd, k, so⟩) :
    wpAny (model prog w) (lwA lf lc dp un gd L cl) (exec (stmtAt ast_law.1.2.1 15) (lwE lf lc L cl)) Q E ⟨sh, sg, sd, sk, so⟩ := by
  have hs := dropSlice hat
  have hal := hat.len
  show wpAny _ _ (exec (.If _ _ _ _) _) _ _ _
  k_steps
  · exfalso
    rename (S r != _) = true => e
    rw [hs, bne_self_eq_false] at e
    cases e
  · exact hq _ _ (by assumption) (by assumption)
end
section
variable {lf : Addr} {lc : Value} {prog : Program} {w : World} {p : Program} {loose : List Str} {mean : ExcName → Option Value} {mg mb : Str → Option Value} {dp un : Nat} {gd : Option (List Code)} {L : Addr} {A₀ : Around} {base h₀ : Heap} {sh : Heap} {sg : Array GenState} {sd : Drawn} {sk : Nat} {so : OsState} {E : Value → Shared → Prop} {cl : List (Str × Addr)} {fx : List (Addr × Obj)}
theorem newsCut2 {h : Heap} {a b : Addr × Obj} {r : List (Addr × Obj)} (N : News h₀ L h (a :: b :: r)) : News h₀ L h (a :: r) := newsSub N (by
  intro q hq
  simp only [List.mem_cons] at hq ⊢
  rcases hq with h | h
  · exact .inl h
  · exact .inr (.inr h))
theorem s17 {n c : Nat} {tk : Tok} {wa dd : Addr} {dus : List Value} {due : List (List Nat × Nat)} {A0 : List (Addr × Obj)} {pb : Option Nat} {u : Str → Option Value}
    (F : Fr h₀ L sh (kstB u [(Str.ofString "taken", .int (n : Int) tk), (Str.ofString "due", .ref dd), (Str.ofString "waiting", .ref wa)])) (X : (frag w.params).In h₀) (N : News h₀ L sh ((wa, listOf #[] 0) :: (dd, listOf dus.toArray c) :: fx)) (T : Top p loose mean mg mb h₀)
    (hA : DatAll A0 dus (due.map tokD)) (sub : ∀ q ∈ A0, q ∈ fx) (le : n ≤ due.length) (hz : due.length ≤ 1000) (hne : due ≠ [] → 1 ≤ n) (hw : Wait due n pb)
    {Q : Flow → Shared → Prop}
    (hq : ∀ h' k m' wa' wvs c', Fr h₀ L h' m' → News h₀ L h' ((wa', listOf (List.toArray wvs) c') :: (dd, listOf dus.toArray c) :: fx) → m' (Str.ofString "waiting") = some (.ref wa') → DatAll [] wvs ((pbl pb).map fun l => Dat.str (S l)) → Q .next ⟨h', sg, sd, k, so⟩) :
    wpAny (model prog w) (lwA lf lc dp un gd L cl) (exec (stmtAt ast_law.1.2.1 17) (lwE lf lc L cl)) Q E ⟨sh, sg, sd, sk, so⟩ := by
  have hlen := hA.length
  rw [List.length_map] at hlen
  show wpAny _ _ (exec (.If _ _ _ _) _) _ _ _
  k_steps
  refine kd_len N (.tail _ (.head _)) hA (by simp; omega) ?_
  k_steps
  · rename_i hlt v1 d1 hk1 hm1 hD1
    have lt : n < due.length := by rw [List.length_map] at hlt; omega
    have n1 : 1 ≤ n := hne (fun e => by rw [e] at lt; exact absurd lt (Nat.not_lt_zero _))
    have g0 : due[n]? = some (due[n]'lt) := List.getElem?_eq_getElem lt
    have g1 : due[n - 1]? = some (due[n - 1]'(by omega)) := List.getElem?_eq_getElem (by omega)
    have e1 : d1 = tokD (due[n]'lt) := by
      rw [Int.toNat_natCast, List.getElem?_map, g0] at hk1
      exact (Option.some.inj hk1).symm
    refine tok_behind N (sub2 sub) hD1 e1 (fun t1 => ?_) (fun _ => rfl)
    clear hk1 hm1 hD1
    k_steps
    rename_i v2 d2 hk2 hm2 hD2
    have e2 : d2 = tokD (due[n - 1]'(by omega)) := by
      rw [show ((n : Int) - 1).toNat = n - 1 from by omega, List.getElem?_map, g1] at hk2
      exact (Option.some.inj hk2).symm
    refine tok_behind N (sub2 sub) hD2 e2 (fun t2 => ?_) (fun _ => rfl)
    clear hk2 hm2 hD2
    k_steps
    · rename_i heq v3 d3 hk3 hm3 hD3
      have e3 : d3 = tokD (due[n]'lt) := by
        rw [Int.toNat_natCast, List.getElem?_map, g0] at hk3
        exact (Option.some.inj hk3).symm
      refine tok_token N (sub2 sub) hD3 e3 (fun t3 => ?_) (fun _ => rfl)
      k_steps
      rename News _ _ _ _ => N5
      rename Fr _ _ _ _ => F5
      refine hq _ _ _ _ [_] 0 F5 (newsCut2 N5) (if_pos rfl) ?_
      rcases hw with ⟨rfl, h⟩ | ⟨c', q, y, _, a1, a2, a3, rfl⟩
      · exact absurd heq (by have := h _ _ g0 g1 n1; omega)
      · have b1 := Option.some.inj (g0.symm.trans a1)
        rw [b1]
        exact .cons (.str _ _) .nil
    · rename_i heq
      refine hq _ _ _ wa [] 0 F N rfl ?_
      rcases hw with ⟨rfl, _⟩ | ⟨c', q, y, _, a1, a2, a3, _⟩
      · exact .nil
      · rw [g0] at a1
        rw [g1] at a2
        have b1 := Option.some.inj a1
        have b2 := Option.some.inj a2
        rw [b1, b2, a3] at heq
        exact absurd rfl heq
  · rename_i hlt
    refine hq _ _ _ wa [] 0 F N rfl ?_
    rcases hw with ⟨rfl, _⟩ | ⟨c', q, y, _, a1, _⟩
    · exact .nil
    · have := (List.getElem?_eq_some_iff.mp a1).1
      rw [List.length_map] at hlt
      omega
end
section
section
variable {prog : Program} {w : World} {p : Program} {loose : List Str} {mean : ExcName → Option Value} {mg mb : Str → Option Value} {dp un : Nat} {gd : Option (List Code)} {cn : Str} {cs : Scope} {a : Addr} {ccd : Value} {cl : List (Str × Addr)} {L : Addr} {A₀ : Around} {base h₀ : Heap} {m : Str → Option Value} {sh : Heap} {sg : Array GenState} {sd : Drawn} {sk : Nat} {so : OsState} {E : Value → Shared → Prop} {rest : List (Addr × Obj)}
  {px : Bool} {x : Str} {la lda ia ida pa fa : Addr} {D K : Nat → Tok}
theorem frBack {g g' h : Heap} (T : KtsTurn [] g g') (F : Fr g' L h m) : Fr g L h m := ⟨F.ns, fun b o e => F.keep b o (T.other b o e (List.not_mem_nil)), by rw [← T.size]; exact F.above⟩
theorem newsBack {g g' h : Heap} {news : List (Addr × Obj)} (T : KtsTurn [] g g') (N : News g' L h news) : News g L h news := fun q hq => by
  obtain ⟨h1, h2, h3⟩ := N q hq
  refine ⟨h1, h2, ?_⟩
  cases e : g.get? q.1 with
  | none => rfl
  | some o => rw [T.other _ _ e (List.not_mem_nil)] at h3; cases h3
theorem newsDrop7 {h : Heap} {a1 a2 a3 a4 a5 a6 c : Addr × Obj} {r : List (Addr × Obj)} (N : News h₀ L h (a1 :: a2 :: a3 :: a4 :: a5 :: a6 :: c :: r)) : News h₀ L h (a1 :: a2 :: a3 :: a4 :: a5 :: a6 :: r) := newsSub N (by
  intro q hq
  simp only [List.mem_cons] at hq ⊢
  rcases hq with h | h | h | h | h | h | h
  · exact .inl h
  · exact .inr (.inl h)
  · exact .inr (.inr (.inl h))
  · exact .inr (.inr (.inr (.inl h)))
  · exact .inr (.inr (.inr (.inr (.inl h))))
  · exact .inr (.inr (.inr (.inr (.inr (.inl h)))))
  · exact .inr (.inr (.inr (.inr (.inr (.inr (.inr h)))))))
theorem list_lexO {toks : List (List Nat)} {s1 s2 : Nat × LS × Option Nat} (B : Below A₀ base [] h₀) (F : Fr h₀ L sh m) (X : (frag w.params).In h₀) (off : OwnOff rest [ia, ida, la, lda, pa, fa]) (R : Ord6 lda la ida ia pa fa) (T : Top p loose mean mg mb h₀) (hk : cs.kind = .function) (hz : x.length ≤ 100000) (hd : dp + 8 < recursionLimit)
    {Q : Value → Shared → Prop} (H : LX w.params h₀ L la lda ia ida pa fa D K px x rest s1.1 s1.2.1 s1.2.2 sh) (g : GRow px x s1 toks s2) (ht : toks.length ≤ 1000)
    (hret : ∀ Sx h' k vs c', (∀ q ∈ rest, @LT.lt Nat _ q.1 Sx) → Fr h₀ L h' m → StrsV vs toks → LX w.params h₀ L la lda ia ida pa fa D K px x ((Sx, listOf vs.toArray c') :: rest) s2.1 s2.2.1 s2.2.2 h' → Q (.ref Sx) ⟨h', sg, sd, k, so⟩) :
    wpAny (model prog w) (ktrTop dp un gd cn cs L a ccd cl []) (call (.type "list") [.ref la]) Q E ⟨sh, sg, sd, sk, so⟩ := by
  refine list_lex B F X off R T hk hz hd H g ht fun Sx g' h' k vs c' lt T' F' B' hv H' => ?_
  obtain ⟨ts, tl, tt, tp, ln, pst, pvs, hp, N⟩ := H'
  exact hret Sx h' k vs c' lt (frBack T' F') hv ⟨ts, tl, tt, tp, ln, pst, pvs, hp, newsBack T' N⟩
end
local macro_rules | `(tactic| walk_at "call type:list") => `(tactic| ((with_reducible show wpAny _ _ (call (Value.type "list") [Value.ref _]) _ _ _); k_dflt 
  (refine' list_lexO ?B ?F ?X ?off ?R ?T ?hk ?hz ?hd ?H ?g ?ht ?_; (case g => with_reducible assumption); (case ht => with_reducible assumption); (case B => k_asm); (case F => k_asm); (case X => k_asm); (case off => with_reducible assumption); (case R => with_reducible assumption); (case T => k_asm); (case hk => exact rfl); (case hd => ktr_room); (case H => exact ⟨_, _, _, _, _, _, _, (by with_reducible assumption), by k_asm⟩); (case hz => with_reducible assumption); intro S1 h1 k1 vs1 c1 lt1 F1 hv1 H1; obtain ⟨ts1, tl1, tt1, tp1, ln1, pst1, pvs1, hp1, N1⟩ := H1; (try k_sweep))))
local macro_rules | `(tactic| walk_at "compareOp NotEq ref ref") => `(tactic| (k_dflt (refine' ne_toks ?N ?ma ?mb ?Da ?Db ?e ?ok ?hu ?_; (case Da => with_reducible assumption); (case Db => with_reducible assumption); (case N => k_asm); (case ma => k_mem); (case mb => k_mem); (case e => with_reducible assumption); (case ok => with_reducible assumption); (case hu => with_reducible assumption))))
section
variable {lf : Addr} {lc : Value} {prog : Program} {w : World} {p : Program} {loose : List Str} {mean : ExcName → Option Value} {mg mb : Str → Option Value} {dp un : Nat} {gd : Option (List Code)} {L : Addr} {A₀ : Around} {base h₀ : Heap} {sh : Heap} {sg : Array GenState} {sd : Drawn} {sk : Nat} {so : OsState} {E : Value → Shared → Prop} {cx ce : Addr} {fx : List (Addr × Obj)}
  {px : Bool} {x : Str} {la lda ia ida pa fa : Addr} {D K : Nat → Tok} {s1 s2 : Nat × LS × Option Nat}
theorem s18 {wa : Addr} {wvs : List Value} {c : Nat} {u : Str → Option Value} {oX : Obj} {toks wt : List (List Nat)}
    (B : Below A₀ base [] h₀) (F : Fr h₀ L sh (kstB u [(Str.ofString "waiting", .ref wa)])) (X : (frag w.params).In h₀) (T : Top p loose mean mg mb h₀)
    (H : LX w.params h₀ L la lda ia ida pa fa D K px x ((cx, oX) :: (wa, listOf wvs.toArray c) :: fx) s1.1 s1.2.1 s1.2.2 sh)
    (hX : oX.data = .cell (some (.ref la))) (off : OwnOff ((cx, oX) :: (wa, listOf wvs.toArray c) :: fx) [ia, ida, la, lda, pa, fa]) (R : Ord6 lda la ida ia pa fa)
    (g : GRow px x s1 toks s2) (ht : toks.length ≤ 1000) (Db : DatAll [] wvs (wt.map fun l => Dat.str (S l))) (e : toks = wt) (ok : ∀ l ∈ toks, tokOk l) (hu : un + 64 < cLine) (hxz : x.length ≤ 100000) (hd : dp + 20 < recursionLimit)
    {Q : Flow → Shared → Prop}
    (hq : ∀ h' k, Fr h₀ L h' (kstB u [(Str.ofString "waiting", .ref wa)]) → LX w.params h₀ L la lda ia ida pa fa D K px x ((cx, oX) :: (wa, listOf wvs.toArray c) :: fx) s2.1 s2.2.1 s2.2.2 h' → Q .next ⟨h', sg, sd, k, so⟩) :
    wpAny (model prog w) (lwA lf lc dp un gd L [(Str.ofString "lex", cx), (Str.ofString "end", ce)]) (exec (stmtAt ast_law.1.2.1 18) (lwE lf lc L [(Str.ofString "lex", cx), (Str.ofString "end", ce)])) Q E ⟨sh, sg, sd, sk, so⟩ := by
  obtain ⟨ts0, tl0, tt0, tp0, ln0, pst0, pvs0, hp0, N0⟩ := H
  show wpAny _ _ (exec (.If _ _ _ _) _) _ _ _
  k_steps
  exact hq _ _ (by assumption) ⟨_, _, _, _, _, _, _, by assumption, newsDrop7 (by assumption)⟩
end
end
section
local macro_rules | `(tactic| walk_at "call ref") => `(tactic| ((with_reducible show wpAny _ _ (call (Value.ref 747) _) _ _ _); k_dflt 
  (refine' law_takeZ ?h0 ?v0 ?B ?F ?X ?off ?R ?T ?hk ?hz ?hd ?XB ?TB ?H ?g ?_; (case g => with_reducible assumption); (case h0 => with_reducible assumption); (case v0 => exact rfl); (case B => k_asm); (case F => k_asm); (case X => k_asm); (case off => with_reducible assumption); (case R => with_reducible assumption); (case T => k_asm); (case XB => k_asm); (case TB => k_asm); (case hk => exact rfl); (case hd => ktr_room); (case H => exact ⟨_, _, _, _, _, _, _, (by with_reducible assumption), by k_asm⟩); (case hz => with_reducible assumption); intro S1 h1 k1 vs1 c1 lt1 F1 hv1 H1; obtain ⟨ts1, tl1, tt1, tp1, ln1, pst1, pvs1, hp1, N1⟩ := H1; (try k_sweep))))
noncomputable def retE : Stmt → Expr
  | .Return (some e) _ => e
  | _ => default
noncomputable def finC : Expr × Expr := cmpParts (retE (stmtAt ast_law.1.2.1 19))
noncomputable def comp1 : Expr → Expr × Expr × Scope
  | .ListComp e [⟨_, i, _, _⟩] s _ => (e, i, s)
  | _ => (default, default, default)
section
open PyProof.Rows.LCg
variable {lf : Addr} {lc : Value} {prog : Program} {w : World} {p : Program} {loose : List Str} {mean : ExcName → Option Value} {mg mb : Str → Option Value} {dp un : Nat} {gd : Option (List Code)} {L : Addr} {A₀ : Around} {base h₀ : Heap} {sh : Heap} {sg : Array GenState} {sd : Drawn} {sk : Nat} {so : OsState} {E : Value → Shared → Prop} {cx ce : Addr} {fx : List (Addr × Obj)}
  {px : Bool} {x : Str} {la lda ia ida pa fa : Addr} {D K : Nat → Tok}
theorem fin_elt {te t : Tok} {m m₂ : Str → Option Value} {oX oE oI oC : Obj} {I C Dl : Addr} {ys : List Value} {z : Int} {hand : Nat} {cl : List (Str × Addr)}
    (hcl : cl = [(Str.ofString "lex", cx), (Str.ofString "end", ce)]) (hx2 : m₂ (Str.ofString "hand") = some (.int z t)) (h0 : z = (hand : Int)) (hC : NsObj oC m₂)
    (B : Below A₀ base [] h₀) (F : Fr h₀ L sh m) (X : (frag w.params).In h₀) (T : Top p loose mean mg mb h₀) (XB : (frag w.params).In base) (TB : Top p loose mean mg mb base)
    (H : LX w.params h₀ L la lda ia ida pa fa D K px x ((cx, oX) :: (ce, oE) :: (I, oI) :: (C, oC) :: (Dl, lst ys) :: fx) x.length .eof none sh)
    (hX : oX.data = .cell (some (.ref la))) (hE : oE.data = .cell (some (eofV px te))) (off : OwnOff ((cx, oX) :: (ce, oE) :: (I, oI) :: (C, oC) :: (Dl, lst ys) :: fx) [ia, ida, la, lda, pa, fa]) (R : Ord6 lda la ida ia pa fa) (hxz : x.length ≤ 100000) (hd : dp + 20 < recursionLimit)
    (g : Take px x hand (x.length, .eof, none) [] (x.length, .eof, none))
    {Q : Value → Shared → Prop}
    (hq : ∀ Sx h' k c', (∀ q ∈ (cx, oX) :: (ce, oE) :: (I, oI) :: (C, oC) :: (Dl, lst ys) :: fx, @LT.lt Nat _ q.1 Sx) → Fr h₀ L h' m → LX w.params h₀ L la lda ia ida pa fa D K px x ((Sx, listOf #[] c') :: (cx, oX) :: (ce, oE) :: (I, oI) :: (C, oC) :: (Dl, lst ys) :: fx) x.length .eof none h' → Q (.ref Sx) ⟨h', sg, sd, k, so⟩) :
    wpAny (model prog w) (lwA lf lc dp un gd L [(Str.ofString "lex", cx), (Str.ofString "end", ce)]) (eval (comp1 finC.1).1 (compEnvC (comp1 finC.1).2.2 cl C (lwE lf lc L [(Str.ofString "lex", cx), (Str.ofString "end", ce)]))) Q E ⟨sh, sg, sd, sk, so⟩ := by
  subst hcl
  obtain ⟨ts0, tl0, tt0, tp0, ln0, pst0, pvs0, hp0, N0⟩ := H
  have hC' : sh.Ns C m₂ := hC.ns (N0 (C, oC) (by simp)).1
  show wpAny _ _ (eval (.Call (.Name (Str.ofString "_law_take") _) [.Name (Str.ofString "lex") _, .Name (Str.ofString "hand") _, .Name (Str.ofString "end") _] _ _) _) _ _ _
  k_steps
  rename StrsV _ _ => hv
  cases hv
  exact hq _ _ _ _ (by assumption) (by assumption) ⟨_, _, _, _, _, _, _, by assumption, by assumption⟩
theorem range5 {m : Str → Option Value} {news : List (Addr × Obj)} {cl : List (Str × Addr)} (F : Fr h₀ L sh m) (N : News h₀ L sh news) (X : (frag w.params).In h₀) (T : Top p loose mean mg mb h₀)
    {Q : Value → Shared → Prop} (hq : ∀ r h' k t u v, Fr h₀ L h' m → News h₀ L h' news → IsRange h' r 0 5 1 t u v → Q (.ref r) ⟨h', sg, sd, k, so⟩) :
    wpAny (model prog w) (lwA lf lc dp un gd L cl) (eval (comp1 finC.1).2.1 (lwE lf lc L cl)) Q E ⟨sh, sg, sd, sk, so⟩ := by
  show wpAny _ _ (eval (.Call (.Name (Str.ofString "range") _) _ _ _) _) _ _ _
  k_steps
  exact hq _ _ _ _ _ _ (by assumption) (by assumption) (by assumption)
theorem neCls {h : Heap} {a b : Addr} {o o' : Obj} (h1 : h.get? a = some o) (h2 : h.get? b = some o') (hc : o.cls ≠ o'.cls) : a ≠ b := fun e => hc (by subst e; rw [h1] at h2; cases h2; rfl)
theorem offMid {q1 q2 q3 q4 q5 : Addr × Obj} {l : List (Addr × Obj)} {six : List Addr} (h1 : ∀ b ∈ six, q1.1 ≠ b) (h2 : ∀ b ∈ six, q2.1 ≠ b) (h3 : ∀ b ∈ six, q3.1 ≠ b) (h4 : ∀ b ∈ six, q4.1 ≠ b) (h5 : ∀ b ∈ six, q5.1 ≠ b) (h : OwnOff l six) : OwnOff (q1 :: q2 :: q3 :: q4 :: q5 :: l) six := by
  intro q hq b hb
  simp only [List.mem_cons] at hq
  rcases hq with e | e | e | e | e | e
  · subst e; exact h1 b hb
  · subst e; exact h2 b hb
  · subst e; exact h3 b hb
  · subst e; exact h4 b hb
  · subst e; exact h5 b hb
  · exact h q e b hb
theorem fin_rest {te : Tok} {m : Str → Option Value} {oX oE : Obj} {s : Shared} (hs : s = ⟨s.heap, sg, sd, s.toks, so⟩) {cl : List (Str × Addr)} {Fin : List Value → List (Addr × Obj) → Prop}
    (hcl : cl = [(Str.ofString "lex", cx), (Str.ofString "end", ce)])
    (B : Below A₀ base [] h₀) (X : (frag w.params).In h₀) (T : Top p loose mean mg mb h₀) (XB : (frag w.params).In base) (TB : Top p loose mean mg mb base)
    (hX : oX.data = .cell (some (.ref la))) (hE : oE.data = .cell (some (eofV px te))) (ofc : OwnOff [(cx, oX), (ce, oE)] [ia, ida, la, lda, pa, fa]) (R : Ord6 lda la ida ia pa fa) (hxz : x.length ≤ 100000) (hd : dp + 20 < recursionLimit)
    (fin : ∀ ys A1 nw, DatAll A1 ys [.list [], .list [], .list [], .list [], .list []] → (∀ q ∈ A1, q ∈ nw) → Fin ys nw) :
    ∀ (k i : Nat) (ys : List Value) (ls : List (Addr × Obj)) (ts tl tt tp : Tok) (ln pst : Int) (pvs : List Value), i + k = 5 → DatAll ls ys (List.replicate i (Dat.list [])) → PbV none pvs → OwnOff (ls ++ fx) [ia, ida, la, lda, pa, fa] →
      CompRest prog w (lwA lf lc dp un gd L [(Str.ofString "lex", cx), (Str.ofString "end", ce)]) h₀ L m (lwE lf lc L [(Str.ofString "lex", cx), (Str.ofString "end", ce)]) (comp1 finC.1).1 (Str.ofString "hand") (comp1 finC.1).2.2 cl s (fun _ => True) (fun i v => ∃ t, v = .int (0 + (i : Int)) t) Fin k i ys
        ((ia, instObj 587 ida) :: (ida, sioO w.params D x (x.length : Int) tp) :: (la, instObj 722 lda) :: (lda, lexO w.params K px ia pa fa (LS.eof.val ts) ln tl (S []) tt) :: (pa, dequeO pst pvs) :: (fa, dequeO 0 []) :: (cx, oX) :: (ce, oE) :: (ls ++ fx)) := by
  intro k
  induction k with
  | zero =>
    intro i ys ls ts tl tt tp ln pst pvs hk hA hp ho
    have e : i = 5 := by omega
    subst e
    exact fin _ ls _ hA fun q hq => .tail _ (.tail _ (.tail _ (.tail _ (.tail _ (.tail _ (.tail _ (.tail _ (List.mem_append.mpr (.inl hq)))))))))
  | succ k ih =>
    intro i ys ls ts tl tt tp ln pst pvs hk hA hp ho
    refine CompRest.succ fun v I oI C oC Dl m₂ h tk E' hv hC hx2 F N off3 ne => ?_
    obtain ⟨t, rfl⟩ := hv
    have o3 := off3.mem
    have g : Take px x i (x.length, .eof, none) [] (x.length, .eof, none) := by
      by_cases h4 : i = 4
      · exact .all h4 (.nil eofTok) (by simp)
      · exact .none (by omega) eofTok
    have six : ∀ b ∈ [ia, ida, la, lda, pa, fa], b ≠ I ∧ b ≠ C ∧ b ≠ Dl := by
      intro b hb
      simp only [List.mem_cons, List.not_mem_nil, or_false] at hb
      rcases hb with rfl | rfl | rfl | rfl | rfl | rfl
      · exact o3 (_, _) (.head _)
      · exact o3 (_, _) (.tail _ (.head _))
      · exact o3 (_, _) (.tail _ (.tail _ (.head _)))
      · exact o3 (_, _) (.tail _ (.tail _ (.tail _ (.head _))))
      · exact o3 (_, _) (.tail _ (.tail _ (.tail _ (.tail _ (.head _)))))
      · exact o3 (_, _) (.tail _ (.tail _ (.tail _ (.tail _ (.tail _ (.head _))))))
    have H : LX w.params h₀ L la lda ia ida pa fa D K px x ((cx, oX) :: (ce, oE) :: (I, oI) :: (C, oC) :: (Dl, lst ys) :: (ls ++ fx)) x.length .eof none h := ⟨ts, tl, tt, tp, ln, pst, pvs, hp, newsSub N (by (repeat' (first | (with_reducible exact subR) | (with_reducible exact subN) | (with_reducible refine subC ?_ ?_) | (with_reducible exact List.mem_cons_self) | (refine List.mem_cons_of_mem _ ?_) | (refine subT ?_) | (with_reducible refine subL ?_))))⟩
    rw [hs]
    refine fin_elt (te := te) (t := t) (hand := i) (I := I) (oI := oI) (oC := oC) (Dl := Dl) (ys := ys) hcl hx2 (by omega) hC B F X T XB TB H hX hE (offMid (fun b hb => ofc (cx, oX) (.head _) b hb) (fun b hb => ofc (ce, oE) (.tail _ (.head _)) b hb) (fun b hb => (six b hb).1.symm) (fun b hb => (six b hb).2.1.symm) (fun b hb => (six b hb).2.2.symm) ho) R hxz hd g fun Sx h' k' c' lt F' H' => ?_
    obtain ⟨ts1, tl1, tt1, tp1, ln1, pst1, pvs1, hp1, N1⟩ := H'
    refine CompEnd.intro F' N1 ((ia, instObj 587 ida) :: (ida, sioO w.params D x (x.length : Int) tp1) :: (la, instObj 722 lda) :: (lda, lexO w.params K px ia pa fa (LS.eof.val ts1) ln1 tl1 (S []) tt1) :: (pa, dequeO pst1 pvs1) :: (fa, dequeO 0 []) :: (cx, oX) :: (ce, oE) :: (((Sx, listOf #[] c') :: ls) ++ fx)) ?_ ?_ trivial ?_
    · simp only [List.cons_append]; (repeat' (first | (with_reducible exact subR) | (with_reducible exact subN) | (with_reducible refine subC ?_ ?_) | (with_reducible exact List.mem_cons_self) | (refine List.mem_cons_of_mem _ ?_) | (refine subT ?_) | (with_reducible refine subL ?_)))
    · refine Off3.of fun q hq => ?_
      simp only [List.mem_cons, List.cons_append] at hq
      have sx : Sx ≠ I ∧ Sx ≠ C ∧ Sx ≠ Dl := ⟨neN (Nat.ne_of_gt (lt (I, oI) (.tail _ (.tail _ (.head _))))), neN (Nat.ne_of_gt (lt (C, oC) (.tail _ (.tail _ (.tail _ (.head _)))))), neN (Nat.ne_of_gt (lt (Dl, lst ys) (.tail _ (.tail _ (.tail _ (.tail _ (.head _)))))))⟩
      rcases hq with h | h | h | h | h | h | h | h | h | h
      · rw [h]; exact six ia (by (repeat' (first | (with_reducible exact subR) | (with_reducible exact subN) | (with_reducible refine subC ?_ ?_) | (with_reducible exact List.mem_cons_self) | (refine List.mem_cons_of_mem _ ?_) | (refine subT ?_) | (with_reducible refine subL ?_))))
      · rw [h]; exact six ida (by (repeat' (first | (with_reducible exact subR) | (with_reducible exact subN) | (with_reducible refine subC ?_ ?_) | (with_reducible exact List.mem_cons_self) | (refine List.mem_cons_of_mem _ ?_) | (refine subT ?_) | (with_reducible refine subL ?_))))
      · rw [h]; exact six la (by (repeat' (first | (with_reducible exact subR) | (with_reducible exact subN) | (with_reducible refine subC ?_ ?_) | (with_reducible exact List.mem_cons_self) | (refine List.mem_cons_of_mem _ ?_) | (refine subT ?_) | (with_reducible refine subL ?_))))
      · rw [h]; exact six lda (by (repeat' (first | (with_reducible exact subR) | (with_reducible exact subN) | (with_reducible refine subC ?_ ?_) | (with_reducible exact List.mem_cons_self) | (refine List.mem_cons_of_mem _ ?_) | (refine subT ?_) | (with_reducible refine subL ?_))))
      · rw [h]; exact six pa (by (repeat' (first | (with_reducible exact subR) | (with_reducible exact subN) | (with_reducible refine subC ?_ ?_) | (with_reducible exact List.mem_cons_self) | (refine List.mem_cons_of_mem _ ?_) | (refine subT ?_) | (with_reducible refine subL ?_))))
      · rw [h]; exact six fa (by (repeat' (first | (with_reducible exact subR) | (with_reducible exact subN) | (with_reducible refine subC ?_ ?_) | (with_reducible exact List.mem_cons_self) | (refine List.mem_cons_of_mem _ ?_) | (refine subT ?_) | (with_reducible refine subL ?_))))
      · exact o3 q (by ((first | (refine memEq h ?_) | (refine memIn h ?_)) <;> (repeat' (first | (with_reducible exact subR) | (with_reducible exact subN) | (with_reducible refine subC ?_ ?_) | (with_reducible exact List.mem_cons_self) | (refine List.mem_cons_of_mem _ ?_) | (refine subT ?_) | (with_reducible refine subL ?_)))))
      · exact o3 q (by ((first | (refine memEq h ?_) | (refine memIn h ?_)) <;> (repeat' (first | (with_reducible exact subR) | (with_reducible exact subN) | (with_reducible refine subC ?_ ?_) | (with_reducible exact List.mem_cons_self) | (refine List.mem_cons_of_mem _ ?_) | (refine subT ?_) | (with_reducible refine subL ?_)))))
      · rw [h]; exact sx
      · exact o3 q (by ((first | (refine memEq h ?_) | (refine memIn h ?_)) <;> (repeat' (first | (with_reducible exact subR) | (with_reducible exact subN) | (with_reducible refine subC ?_ ?_) | (with_reducible exact List.mem_cons_self) | (refine List.mem_cons_of_mem _ ?_) | (refine subT ?_) | (with_reducible refine subL ?_)))))
    · have z := ih (i + 1) (ys ++ [.ref Sx]) ((Sx, listOf #[] c') :: ls) ts1 tl1 tt1 tp1 ln1 pst1 pvs1 (by omega) (by
        rw [List.replicate_succ']
        exact (hA.mono fun q hq => .tail _ hq).append (.cons (.list (.head _) .nil) .nil)) hp1 (by
        have gS := (N1 (Sx, listOf #[] c') (by simp)).1
        refine fun q hq b hb => ?_
        rcases List.mem_cons.mp hq with e | e
        · subst e
          simp only [List.mem_cons, List.not_mem_nil, or_false] at hb
          rcases hb with rfl | rfl | rfl | rfl | rfl | rfl
          · exact neCls gS (N1 (b, _) (.head _)).1 (fun e => nomatch e)
          · exact neCls gS (N1 (b, _) (.tail _ (.head _))).1 (by show Value.type _ ≠ Value.type _; decide)
          · exact neCls gS (N1 (b, _) (.tail _ (.tail _ (.head _)))).1 (fun e => nomatch e)
          · exact neCls gS (N1 (b, _) (.tail _ (.tail _ (.tail _ (.head _))))).1 (by show Value.type _ ≠ Value.type _; decide)
          · exact neCls gS (N1 (b, _) (.tail _ (.tail _ (.tail _ (.tail _ (.head _)))))).1 (by show Value.type _ ≠ Value.type _; decide)
          · exact neCls gS (N1 (b, _) (.tail _ (.tail _ (.tail _ (.tail _ (.tail _ (.head _))))))).1 (by show Value.type _ ≠ Value.type _; decide)
        · exact ho q e b hb)
      rw [hs] at z
      exact z
theorem fin_ev {te : Tok} {m : Str → Option Value} {oX oE : Obj}
    (B : Below A₀ base [] h₀) (F : Fr h₀ L sh m) (X : (frag w.params).In h₀) (T : Top p loose mean mg mb h₀) (XB : (frag w.params).In base) (TB : Top p loose mean mg mb base)
    (H : LX w.params h₀ L la lda ia ida pa fa D K px x ((cx, oX) :: (ce, oE) :: fx) x.length .eof none sh)
    (hX : oX.data = .cell (some (.ref la))) (hE : oE.data = .cell (some (eofV px te))) (off : OwnOff ((cx, oX) :: (ce, oE) :: fx) [ia, ida, la, lda, pa, fa]) (R : Ord6 lda la ida ia pa fa) (hxz : x.length ≤ 100000) (hd : dp + 20 < recursionLimit)
    {Q : Value → Shared → Prop}
    (hq : ∀ D h' k ys A1 nw, Fr h₀ L h' m → News h₀ L h' ((D, lst ys) :: nw) → DatAll A1 ys [.list [], .list [], .list [], .list [], .list []] → (∀ q ∈ A1, q ∈ nw) → Q (.ref D) ⟨h', sg, sd, k, so⟩) :
    wpAny (model prog w) (lwA lf lc dp un gd L [(Str.ofString "lex", cx), (Str.ofString "end", ce)]) (eval finC.1 (lwE lf lc L [(Str.ofString "lex", cx), (Str.ofString "end", ce)])) Q E ⟨sh, sg, sd, sk, so⟩ := by
  obtain ⟨ts0, tl0, tt0, tp0, ln0, pst0, pvs0, hp0, N0⟩ := H
  show wpAny _ _ (eval (.ListComp (comp1 finC.1).1 [⟨.Name (Str.ofString "hand") _, (comp1 finC.1).2.1, [], 0⟩] (comp1 finC.1).2.2 _) _) _ _ _
  refine ListComp_U (cl := [(Str.ofString "lex", cx), (Str.ofString "end", ce)]) F (by exact rfl) (by decide) rfl (by decide) (by decide +kernel) ?_ (fun _ => rfl)
  refine range5 F N0 X T fun r h1 k1 t u v F1 N1 hr => ?_
  refine CompSrc.range (n := 5) rfl F1 N1 hr (by decide) (by decide) (by decide) fun g => ?_
  exact fin_rest (te := te) (ia := ia) (ida := ida) (la := la) (lda := lda) (pa := pa) (fa := fa) rfl rfl B X T XB TB hX hE (fun q hq => off q ((by (repeat' (first | (with_reducible exact subR) | (with_reducible exact subN) | (with_reducible refine subC ?_ ?_) | (with_reducible exact List.mem_cons_self) | (refine List.mem_cons_of_mem _ ?_) | (refine subT ?_) | (with_reducible refine subL ?_))) : ∀ q ∈ [(cx, oX), (ce, oE)], q ∈ (cx, oX) :: (ce, oE) :: fx) q hq)) R hxz hd (fun ys A1 nw hA hs D h tk F2 N2 _ => hq D h tk ys A1 nw F2 N2 hA hs) 5 0 [] [] ts0 tl0 tt0 tp0 ln0 pst0 pvs0 rfl .nil hp0 (fun q hq => off q (.tail _ (.tail _ hq)))
end
end
section
local macro_rules | `(tactic| walk_at "eval ListComp") => `(tactic| (k_dflt (refine' fin_ev ?B ?F ?X ?T ?XB ?TB ?H ?hX ?hE ?off ?R ?hxz ?hd ?_; (case H => with_reducible assumption); (case B => k_asm); (case F => k_asm); (case X => k_asm); (case T => k_asm); (case XB => k_asm); (case TB => k_asm); (case hX => with_reducible assumption); (case hE => with_reducible assumption); (case off => with_reducible assumption); (case R => with_reducible assumption); (case hxz => with_reducible assumption); (case hd => ktr_room); intro D2 h2 k2 ys2 A2 nw2 F2 N2 hA2 hs2)))
section
variable {lf : Addr} {lc : Value} {prog : Program} {w : World} {p : Program} {loose : List Str} {mean : ExcName → Option Value} {mg mb : Str → Option Value} {dp un : Nat} {gd : Option (List Code)} {L : Addr} {A₀ : Around} {base h₀ : Heap} {sh : Heap} {sg : Array GenState} {sd : Drawn} {sk : Nat} {so : OsState} {E : Value → Shared → Prop} {cx ce : Addr} {fx : List (Addr × Obj)}
  {px : Bool} {x : Str} {la lda ia ida pa fa : Addr} {D K : Nat → Tok}
open Classical in
theorem eq5 {Aa : Around} {s : Shared} {a b l1 l2 l3 l4 l5 : Addr} {ys : List Value} {A1 nw : List (Addr × Obj)}
    (N : News h₀ L s.heap ((b, listOf #[.ref l1, .ref l2, .ref l3, .ref l4, .ref l5] 0) :: (l5, listOf #[] 0) :: (l4, listOf #[] 0) :: (l3, listOf #[] 0) :: (l2, listOf #[] 0) :: (l1, listOf #[] 0) :: (a, LCg.lst ys) :: nw))
    (hA : DatAll A1 ys [.list [], .list [], .list [], .list [], .list []]) (hs : ∀ q ∈ A1, q ∈ nw) (hu : Aa.units + 64 < cLine) {Q : Value → Shared → Prop} (h : Q (.bool true) s) :
    wpAny (model prog w) Aa (compareOp .Eq (.ref a) (.ref b)) Q E s := by
  have hB : DatAll [(l5, listOf #[] 0), (l4, listOf #[] 0), (l3, listOf #[] 0), (l2, listOf #[] 0), (l1, listOf #[] 0)] [.ref l1, .ref l2, .ref l3, .ref l4, .ref l5] [.list [], .list [], .list [], .list [], .list []] :=
    .cons (.list (.tail _ (.tail _ (.tail _ (.tail _ (.head _))))) .nil) (.cons (.list (.tail _ (.tail _ (.tail _ (.head _)))) .nil) (.cons (.list (.tail _ (.tail _ (.head _))) .nil) (.cons (.list (.tail _ (.head _)) .nil) (.cons (.list (.head _) .nil) .nil))))
  have hk : ∀ d ∈ [Dat.list [], .list [], .list [], .list [], .list []], kqdOk 8 d = true := by
    intro d hd
    simp only [List.mem_cons, List.not_mem_nil, or_false] at hd
    rcases hd with rfl | rfl | rfl | rfl | rfl <;> rfl
  refine kqd_eq N (.tail _ (.tail _ (.tail _ (.tail _ (.tail _ (.tail _ (.head _))))))) rfl rfl hA (fun q hq => .tail _ (.tail _ (.tail _ (.tail _ (.tail _ (.tail _ (.tail _ (hs q hq)))))))) (.head _) rfl rfl hB (fun q hq => ?_) hk hk hu ?_
  · revert q; (repeat' (first | (with_reducible exact subR) | (with_reducible exact subN) | (with_reducible refine subC ?_ ?_) | (with_reducible exact List.mem_cons_self) | (refine List.mem_cons_of_mem _ ?_) | (refine subT ?_) | (with_reducible refine subL ?_)))
  · rw [decide_eq_true rfl]
    exact h
theorem s19 {te : Tok} {m : Str → Option Value} {oX oE : Obj}
    (B : Below A₀ base [] h₀) (F : Fr h₀ L sh m) (X : (frag w.params).In h₀) (T : Top p loose mean mg mb h₀) (XB : (frag w.params).In base) (TB : Top p loose mean mg mb base)
    (H : LX w.params h₀ L la lda ia ida pa fa D K px x ((cx, oX) :: (ce, oE) :: fx) x.length .eof none sh)
    (hX : oX.data = .cell (some (.ref la))) (hE : oE.data = .cell (some (eofV px te))) (off : OwnOff ((cx, oX) :: (ce, oE) :: fx) [ia, ida, la, lda, pa, fa]) (R : Ord6 lda la ida ia pa fa) (hxz : x.length ≤ 100000) (hu : un + 64 < cLine) (hd : dp + 20 < recursionLimit)
    {Q : Flow → Shared → Prop}
    (hq : ∀ h' k, Fr h₀ L h' m → Q (.ret (.bool true)) ⟨h', sg, sd, k, so⟩) :
    wpAny (model prog w) (lwA lf lc dp un gd L [(Str.ofString "lex", cx), (Str.ofString "end", ce)]) (exec (stmtAt ast_law.1.2.1 19) (lwE lf lc L [(Str.ofString "lex", cx), (Str.ofString "end", ce)])) Q E ⟨sh, sg, sd, sk, so⟩ := by
  have N : News h₀ L sh ((cx, oX) :: (ce, oE) :: fx) := lx_news H fun _ h => h
  show wpAny _ _ (exec (.Return _ _) _) _ _ _
  k_steps
  exact eq5 (by assumption) (by assumption) (by assumption) hu (hq _ _ (by assumption))
end
end
section
variable {lf : Addr} {lc : Value} {prog : Program} {w : World} {p : Program} {loose : List Str} {mean : ExcName → Option Value} {mg mb : Str → Option Value} {dp un : Nat} {gd : Option (List Code)} {L : Addr} {A₀ : Around} {base h₀ : Heap} {sh : Heap} {sg : Array GenState} {sd : Drawn} {sk : Nat} {so : OsState} {E : Value → Shared → Prop} {cl : List (Str × Addr)} {news : List (Addr × Obj)} {m : Str → Option Value}
theorem s910 (F : Fr h₀ L sh m) (N : News h₀ L sh news) (X : (frag w.params).In h₀) (T : Top p loose mean mg mb h₀)
    {Q : Flow → Shared → Prop} {rs : List Stmt}
    (hq : ∀ h' k m' t1, Fr h₀ L h' m' → News h₀ L h' news → m' (Str.ofString "taken") = some (.int ((0 : Nat) : Int) t1) → (∀ y, y ≠ Str.ofString "taken" → y ≠ Str.ofString "place" → m' y = m y) → wpAny (model prog w) (lwA lf lc dp un gd L cl) (execs rs (lwE lf lc L cl)) Q E ⟨h', sg, sd, k, so⟩) :
    wpAny (model prog w) (lwA lf lc dp un gd L cl) (execs (stmtAt ast_law.1.2.1 9 :: stmtAt ast_law.1.2.1 10 :: rs) (lwE lf lc L cl)) Q E ⟨sh, sg, sd, sk, so⟩ := by
  show wpAny _ _ (execs (.Assign _ _ _ :: .Assign _ _ _ :: rs) _) _ _ _
  k_steps
  rename Fr _ _ _ _ => F1
  exact hq _ _ _ _ F1 (by assumption) ((if_neg (by decide)).trans (if_pos rfl)) (fun y h1 h2 => (if_neg h2).trans (if_neg h1))
theorem s12 (F : Fr h₀ L sh m) (N : News h₀ L sh news) (X : (frag w.params).In h₀) (T : Top p loose mean mg mb h₀)
    {Q : Flow → Shared → Prop}
    (hq : ∀ h' k m' t1, Fr h₀ L h' m' → News h₀ L h' news → m' (Str.ofString "rest") = some (.str (S []) t1) → (∀ y, y ≠ Str.ofString "rest" → m' y = m y) → Q .next ⟨h', sg, sd, k, so⟩) :
    wpAny (model prog w) (lwA lf lc dp un gd L cl) (exec (stmtAt ast_law.1.2.1 12) (lwE lf lc L cl)) Q E ⟨sh, sg, sd, sk, so⟩ := by
  show wpAny _ _ (exec (.Assign _ _ _) _) _ _ _
  k_steps
  rename Fr _ _ _ _ => F1
  rw [strEmpty] at F1
  exact hq _ _ _ _ F1 (by assumption) (if_pos rfl) (fun y h1 => if_neg h1)
theorem s16 (F : Fr h₀ L sh m) (N : News h₀ L sh news) (X : (frag w.params).In h₀) (T : Top p loose mean mg mb h₀)
    {Q : Flow → Shared → Prop}
    (hq : ∀ h' k m' wa, Fr h₀ L h' m' → News h₀ L h' ((wa, listOf #[] 0) :: news) → (∀ q ∈ news, @LT.lt Nat _ q.1 wa) → m' (Str.ofString "waiting") = some (.ref wa) → (∀ y, y ≠ Str.ofString "waiting" → m' y = m y) → Q .next ⟨h', sg, sd, k, so⟩) :
    wpAny (model prog w) (lwA lf lc dp un gd L cl) (exec (stmtAt ast_law.1.2.1 16) (lwE lf lc L cl)) Q E ⟨sh, sg, sd, sk, so⟩ := by
  show wpAny _ _ (exec (.Assign _ _ _) _) _ _ _
  k_steps
  rename Fr _ _ _ _ => F1
  exact hq _ _ _ _ F1 (by assumption) (by first | assumption | exact allLt_to (by assumption)) (if_pos rfl) (fun y h1 => if_neg h1)
theorem tokOkT (px : Bool) (k : Nat) : ∀ z ∈ partT px k, tokOk z.1 := by
  intro z hz
  match k, px with
  | 0, _ => simp [partT] at hz; subst hz; exact (show PyData.strOk _ = true from by decide +kernel)
  | 1, _ => simp [partT] at hz; rcases hz with rfl | rfl <;> exact (show PyData.strOk _ = true from by decide +kernel)
  | 2, true => simp [partT] at hz; subst hz; exact (show PyData.strOk _ = true from by decide +kernel)
  | 2, false => simp [partT] at hz; subst hz; exact (show PyData.strOk _ = true from by decide +kernel)
  | 3, true => simp [partT] at hz; subst hz; exact (show PyData.strOk _ = true from by decide +kernel)
  | 3, false => simp [partT] at hz; subst hz; exact (show PyData.strOk _ = true from by decide +kernel)
  | 4, _ => simp [partT] at hz
  | 5, _ => simp [partT] at hz; rcases hz with rfl | rfl <;> exact (show PyData.strOk _ = true from by decide +kernel)
  | _ + 6, true => simp [partT] at hz; subst hz; exact (show PyData.strOk _ = true from by decide +kernel)
  | _ + 6, false => simp [partT] at hz; subst hz; exact (show PyData.strOk _ = true from by decide +kernel)
theorem tokOkD (px : Bool) : ∀ (ks : List Nat) (n : Nat), ∀ z ∈ dueOf px n ks, tokOk z.1
  | [], _, _, h => nomatch h
  | k :: r, n, z, h => by
    rcases List.mem_append.mp h with h | h
    · obtain ⟨y, hy, rfl⟩ := List.mem_map.mp h
      exact tokOkT px k y hy
    · exact tokOkD px r _ z h
end
section
variable {lf : Addr} {lc : Value} {prog : Program} {w : World} {p : Program} {loose : List Str} {mean : ExcName → Option Value} {mg mb : Str → Option Value} {dp un : Nat} {gd : Option (List Code)} {L : Addr} {A₀ : Around} {base h₀ : Heap} {sh : Heap} {sg : Array GenState} {sd : Drawn} {sk : Nat} {so : OsState} {E : Value → Shared → Prop} {cx ce : Addr}
theorem ksOf_lt {ds : List Int} (h : ∀ d ∈ ds, 0 ≤ d ∧ d < 35) : ∀ k ∈ ksOf ds, k < 7 := by
  intro k hk
  obtain ⟨d, _, rfl⟩ := List.mem_map.mp hk
  have := fdiv_fmod_facts d 7
  omega
theorem ne_of_mem_lt {a b : Addr} (h : @LT.lt Nat _ a b) : b ≠ a := neN (Nat.ne_of_gt h)
theorem law_body {ls : Addr} {svs : List Value} {ns : List Int} {u : Str → Option Value} {oX oE : Obj} {vX : Option Value}
    (B : Below A₀ base [] h₀) (F : Fr h₀ L sh (kstB u [(Str.ofString "script", .ref ls)])) (X : (frag w.params).In h₀) (XB : (frag w.params).In base) (N : News h₀ L sh [(cx, oX), (ce, oE)]) (hX : oX.data = .cell vX) (hE : oE.data = .cell none) (hne : @LT.lt Nat _ ce cx) (T : Top p loose mean mg mb h₀) (TB : Top p loose mean mg mb base) (hl : h₀.IsList ls svs.toArray) (hi : IntsAre svs ns) (hn : ns.length ≤ 63) (hu : un + 64 < cLine) (hd : dp + 20 < recursionLimit)
    {Q : Flow → Shared → Prop}
    (hret : ∀ h' k m', Fr h₀ L h' m' → Q (.ret (.bool true)) ⟨h', sg, sd, k, so⟩) (hE' : PassesOwn (model prog w) (lwA lf lc dp un gd L [(Str.ofString "lex", cx), (Str.ofString "end", ce)]) (lwE lf lc L [(Str.ofString "lex", cx), (Str.ofString "end", ce)]) E := by passes_own) :
    wpAny (model prog w) (lwA lf lc dp un gd L [(Str.ofString "lex", cx), (Str.ofString "end", ce)]) (execs ast_law.1.2.1 (lwE lf lc L [(Str.ofString "lex", cx), (Str.ofString "end", ce)])) Q E ⟨sh, sg, sd, sk, so⟩ := by
  show wpAny _ _ (execs (stmtAt ast_law.1.2.1 0 :: stmtAt ast_law.1.2.1 1 :: stmtAt ast_law.1.2.1 2 :: stmtAt ast_law.1.2.1 3 :: stmtAt ast_law.1.2.1 4 :: stmtAt ast_law.1.2.1 5 :: stmtAt ast_law.1.2.1 6 :: stmtAt ast_law.1.2.1 7 :: stmtAt ast_law.1.2.1 8 :: stmtAt ast_law.1.2.1 9 :: stmtAt ast_law.1.2.1 10 :: stmtAt ast_law.1.2.1 11 :: stmtAt ast_law.1.2.1 12 :: stmtAt ast_law.1.2.1 13 :: stmtAt ast_law.1.2.1 14 :: stmtAt ast_law.1.2.1 15 :: stmtAt ast_law.1.2.1 16 :: stmtAt ast_law.1.2.1 17 :: stmtAt ast_law.1.2.1 18 :: stmtAt ast_law.1.2.1 19 :: []) _) _ _ _
  refine seg1 B F X N hE hne T hl hi hn hd fun h1 k1 u1 f tf px te tt dl us ds c dd oE' F1 N1 hE1 hi1 hne1 hlen1 hrg lx1 le1 ld1 => ?_
  clear F N hE
  -- statement 6
  refine wpAny_execs_cons (loop1 (fx := [(cx, oX), (ce, oE')]) (f := f) (tf := tf) (tt := tt) (px := px) (dd := dd) (dl := dl) B F1 (fun q hq => ?_) X N1 (fun q hq b hb => ?_) T hi1 hlen1 hd (fun h2 k2 m2 dus c2 tl tt2 F2 hm2 hA2 N2 lt2 => ?_) hE')
  · simp only [List.mem_cons, List.not_mem_nil, or_false] at hq
    rcases hq with rfl | rfl | rfl | rfl | rfl <;> rfl
  · rw [List.mem_singleton.mp hb]
    simp only [List.mem_cons, List.not_mem_nil, or_false] at hq
    rcases hq with rfl | rfl | rfl <;> (refine neN (Nat.ne_of_lt ?_); dsimp only; omega)
  clear F1 N1
  have hkl : (ksOf ds).length = ds.length := List.length_map _
  have h7 := ksOf_lt hrg
  have hdl := dueOf_len px (ksOf ds) 0
  -- statement 7
  refine wpAny_execs_cons (seg3M (f := f) (tf := tf) (tt := tt2) (ks := ksOf ds) F2 (hm2 (Str.ofString "first", .int f tf) (.tail _ (.tail _ (.tail _ (.tail _ (.head _)))))) (hm2 (Str.ofString "text", .str (S (txtOf (ksOf ds))) tt2) (.tail _ (.head _))) X N2 T (fun e => hne1 (List.map_eq_nil_iff.mp e)) (by omega) fun h3 k3 m3 txt tt3 F3 N3 e3 o3 HT => ?_)
  have hpx := (o3 (Str.ofString "posix") (by decide)).trans (hm2 (Str.ofString "posix", .bool px) (.head _))
  have hdue := (o3 (Str.ofString "due") (by decide)).trans (hm2 (Str.ofString "due", .ref dd) (.tail _ (.tail _ (.head _))))
  have hdig := (o3 (Str.ofString "digits") (by decide)).trans (hm2 (Str.ofString "digits", .ref dl) (.tail _ (.tail _ (.tail _ (.head _)))))
  have htl := HT.len
  clear F2 N2
  -- statement 8
  have P3 : PsIn m3 [(Str.ofString "posix", .bool px), (Str.ofString "text", .str (S txt) tt3)] := ⟨hpx, e3, trivial⟩
  refine wpAny_execs_cons (seg4a (oX := oX) (vX := vX) (px := px) (txt := txt) (tt := tt3) (rest := (ce, oE') :: (dd, listOf dus.toArray c2) :: (tl ++ [(dl, listOf us.toArray c)])) B (frPack F3 _ P3) X (newsSub N3 fun q hq => ?_) hX (fun q hq b hb => ?_) T (by rw [S_len]; omega) hd fun h4 k4 D K la lda ia ida pa fa oX' R4 lt4 F4 hX4 H4 => ?_)
  · simp only [List.mem_cons, List.mem_append, List.not_mem_nil, or_false] at hq ⊢
    rcases hq with h | h | h | h | h <;> simp [h]
  · rw [List.mem_singleton.mp hb]
    simp only [List.mem_cons, List.mem_append, List.not_mem_nil, or_false] at hq
    rcases hq with rfl | rfl | h | rfl
    · exact neN (Nat.ne_of_lt hne)
    · refine neN (Nat.ne_of_gt ?_); dsimp only; omega
    · have := lt2 q h
      refine neN (Nat.ne_of_gt ?_); omega
    · refine neN (Nat.ne_of_gt ?_); dsimp only; omega
  rw [kstB_self P3.all] at F4
  clear F3 N3
  have offx : OwnOff ((cx, oX') :: (ce, oE') :: (dd, listOf dus.toArray c2) :: (tl ++ [(dl, listOf us.toArray c)])) [ia, ida, la, lda, pa, fa] := by
    obtain ⟨r1, r2, r3, r4, r5⟩ := R4
    intro q hq b hb
    have hq' : @LT.lt Nat _ q.1 lda := by
      rcases List.mem_cons.mp hq with rfl | h
      · exact lt4 (cx, oX) (.head _)
      · exact lt4 q (.tail _ h)
    simp only [List.mem_cons, List.not_mem_nil, or_false] at hb
    rcases hb with rfl | rfl | rfl | rfl | rfl | rfl <;> (refine neN (Nat.ne_of_lt ?_); omega)
  -- 9, 10
  obtain ⟨ts4, tl4, tt4, tp4, ln4, pst4, pvs4, hp4, N4⟩ := H4
  refine s910 F4 N4 X T fun h5 k5 m5 t5 F5 N5 e5 o5 => ?_
  clear F4 N4
  -- 11
  refine wpAny_execs_cons (loop2 (te := te) (tkt := t5) (tt := tt3) (dd := dd) (dl := dl) (dus := dus) (us := us) (ds := ds) (c := c2) (cd := c) (A0 := tl) (due := dueOf px 0 (ksOf ds)) (fx := tl ++ [(dl, listOf us.toArray c)]) (txt := txt) B F5 ⟨(o5 (Str.ofString "due") (by decide) (by decide)).trans hdue, e5, (o5 (Str.ofString "text") (by decide) (by decide)).trans e3, (o5 (Str.ofString "digits") (by decide) (by decide)).trans hdig, trivial⟩ X T XB TB ⟨ts4, tl4, tt4, tp4, ln4, pst4, pvs4, hp4, N5⟩ hX4 hE1 offx R4
    ⟨Nat.zero_le _, .inl rfl, .inl ⟨rfl, fun _ _ _ _ h => absurd h (Nat.not_succ_le_zero 0)⟩, HT.due h7, Nat.zero_le _⟩ hA2 (fun q hq => List.mem_append.mpr (.inl hq)) (by omega) (tokOkD px (ksOf ds) 0) hu (by omega) hd (List.mem_append.mpr (.inr (.head _))) hi1 hne1 hrg (fun h6 k6 m6 s' n tk6 tp6 F6 H6 hj6 hne6 e61 e62 e63 e64 => ?_) hE')
  clear F5 N5
  -- 12
  obtain ⟨ts6, tl6, tt6, tp6', ln6, pst6, pvs6, hp6, N6⟩ := H6
  refine wpAny_execs_cons (s12 F6 N6 X T fun h7' k7 m7 t7 F7 N7 e7 o7 => ?_)
  clear F6 N6
  have hat : At (S txt) s'.1 (txt.drop s'.1) := ⟨rfl, hj6.ps⟩
  -- 13, 14
  refine loop3 (r := txt.drop s'.1) (x := S txt) B F7 e7 X T ⟨ts6, tl6, tt6, tp6', ln6, pst6, pvs6, hp6, N7⟩ hX4 offx R4 hat (by rw [S_len]; omega) hd (fun h8 k8 m8 t8 F8 e8 o8 H8 => ?_) hE'
  clear F7 N7
  -- 15
  obtain ⟨ts8, tl8, tt8, tp8, ln8, pst8, pvs8, hp8, N8⟩ := H8
  have g78 : ∀ y, y ≠ Str.ofString "rest" → y ≠ Str.ofString "sign" → m8 y = m6 y := fun y a b => (o8 y a b).trans (o7 y a)
  have P8 : PsIn m8 [(Str.ofString "rest", .str (S (txt.drop s'.1)) t8), (Str.ofString "text", .str (S txt) tt3), (Str.ofString "place", .int (s'.1 : Int) tp6)] := ⟨e8, (g78 (Str.ofString "text") (by decide) (by decide)).trans e64, (g78 (Str.ofString "place") (by decide) (by decide)).trans e62, trivial⟩
  refine wpAny_execs_cons (s15 (n := s'.1) (r := txt.drop s'.1) (txt := txt) (frPack F8 _ P8) N8 X T hat (by omega) (S_len _) (S_len _) fun h9 k9 F9 N9 => ?_)
  rw [kstB_self P8.all] at F9
  clear F8 N8
  -- 16
  refine wpAny_execs_cons (s16 F9 N9 X T fun h10 k10 m10 wa F10 N10 ltw e10 o10 => ?_)
  clear F9 N9
  -- 17
  have P10 : PsIn m10 [(Str.ofString "taken", .int (n : Int) tk6), (Str.ofString "due", .ref dd), (Str.ofString "waiting", .ref wa)] := ⟨(o10 (Str.ofString "taken") (by decide)).trans ((g78 (Str.ofString "taken") (by decide) (by decide)).trans e61), (o10 (Str.ofString "due") (by decide)).trans ((g78 (Str.ofString "due") (by decide) (by decide)).trans e63), e10, trivial⟩
  refine wpAny_execs_cons (s17 (n := n) (c := c2) (pb := s'.2.2) (A0 := tl) (due := dueOf px 0 (ksOf ds)) (dus := dus) (fx := (ia, instObj 587 ida) :: (ida, sioO w.params D (S txt) ((S txt).length : Int) tp8) :: (la, instObj 722 lda) :: (lda, lexO w.params K px ia pa fa (LS.val s'.2.1 ts8) ln8 tl8 (S []) tt8) :: (pa, dequeO pst8 pvs8) :: (fa, dequeO 0 []) :: (cx, oX') :: (ce, oE') :: (tl ++ [(dl, listOf us.toArray c)])) (frPack F10 _ P10) X (newsSub N10 fun q hq => ?_) T hA2 (fun q hq => ?_) hj6.le (by omega) hne6 hj6.wt fun h11 k11 m11 wa' wvs c' F11 N11 e11 hDb => ?_)
  · revert q; (repeat' (first | (with_reducible exact subR) | (with_reducible exact subN) | (with_reducible refine subC ?_ ?_) | (with_reducible exact List.mem_cons_self) | (refine List.mem_cons_of_mem _ ?_) | (refine subT ?_) | (with_reducible refine subL ?_)))
  · exact .tail _ (.tail _ (.tail _ (.tail _ (.tail _ (.tail _ (.tail _ (.tail _ (List.mem_append.mpr (.inl hq)))))))))
  clear F10 N10
  -- 18
  have offw : ∀ b ∈ [ia, ida, la, lda, pa, fa], wa' ≠ b := by
    have gS := (N11 (wa', listOf (List.toArray wvs) c') (.head _)).1
    intro b hb
    simp only [List.mem_cons, List.not_mem_nil, or_false] at hb
    rcases hb with rfl | rfl | rfl | rfl | rfl | rfl
    · exact neCls gS (N11 (b, _) (.tail _ (.tail _ (.head _)))).1 (fun e => nomatch e)
    · exact neCls gS (N11 (b, _) (.tail _ (.tail _ (.tail _ (.head _))))).1 (by show Value.type _ ≠ Value.type _; decide)
    · exact neCls gS (N11 (b, _) (.tail _ (.tail _ (.tail _ (.tail _ (.head _)))))).1 (fun e => nomatch e)
    · exact neCls gS (N11 (b, _) (.tail _ (.tail _ (.tail _ (.tail _ (.tail _ (.head _))))))).1 (by show Value.type _ ≠ Value.type _; decide)
    · exact neCls gS (N11 (b, _) (.tail _ (.tail _ (.tail _ (.tail _ (.tail _ (.tail _ (.head _)))))))).1 (by show Value.type _ ≠ Value.type _; decide)
    · exact neCls gS (N11 (b, _) (.tail _ (.tail _ (.tail _ (.tail _ (.tail _ (.tail _ (.tail _ (.head _))))))))).1 (by show Value.type _ ≠ Value.type _; decide)
  have okp : ∀ l ∈ pbl s'.2.2, tokOk l := by
    rcases hj6.wt with ⟨e, _⟩ | ⟨c0, q, y, _, a1, _, _, e⟩
    · rw [e]; exact fun l hl => nomatch hl
    · rw [e]
      intro l hl
      rw [List.mem_singleton.mp hl]
      exact tokOkD px (ksOf ds) 0 _ (List.mem_of_getElem? a1)
  have hpl : (pbl s'.2.2).length ≤ 1000 := by cases s'.2.2 <;> simp [pbl]
  have P11 : PsIn m11 [(Str.ofString "waiting", .ref wa')] := ⟨e11, trivial⟩
  have H11 : LX w.params h₀ L la lda ia ida pa fa D K px (S txt) ((cx, oX') :: (wa', listOf (List.toArray wvs) c') :: (ce, oE') :: (dd, listOf dus.toArray c2) :: (tl ++ [(dl, listOf us.toArray c)])) (S txt).length s'.2.1 s'.2.2 h11 := ⟨ts8, tl8, tt8, tp8, ln8, pst8, pvs8, hp8, newsSub N11 (by (repeat' (first | (with_reducible exact subR) | (with_reducible exact subN) | (with_reducible refine subC ?_ ?_) | (with_reducible exact List.mem_cons_self) | (refine List.mem_cons_of_mem _ ?_) | (refine subT ?_) | (with_reducible refine subL ?_))))⟩
  refine wpAny_execs_cons (s18 (s1 := ((S txt).length, s'.2.1, s'.2.2)) (s2 := ((S txt).length, .eof, none)) (toks := pbl s'.2.2) (wt := pbl s'.2.2) (wa := wa') B (frPack F11 _ P11) X T H11 hX4 (fun q hq b hb => ?_) R4 (fin_row hj6.st) hpl hDb rfl okp hu (by rw [S_len]; omega) hd fun h12 k12 F12 H12 => ?_)
  · simp only [List.mem_cons] at hq
    rcases hq with h | h | h | h | h
    · exact offx q (by ((first | (refine memEq h ?_) | (refine memIn h ?_)) <;> (repeat' (first | (with_reducible exact subR) | (with_reducible exact subN) | (with_reducible refine subC ?_ ?_) | (with_reducible exact List.mem_cons_self) | (refine List.mem_cons_of_mem _ ?_) | (refine subT ?_) | (with_reducible refine subL ?_))))) b hb
    · subst h; exact offw b hb
    · exact offx q (by ((first | (refine memEq h ?_) | (refine memIn h ?_)) <;> (repeat' (first | (with_reducible exact subR) | (with_reducible exact subN) | (with_reducible refine subC ?_ ?_) | (with_reducible exact List.mem_cons_self) | (refine List.mem_cons_of_mem _ ?_) | (refine subT ?_) | (with_reducible refine subL ?_))))) b hb
    · exact offx q (by ((first | (refine memEq h ?_) | (refine memIn h ?_)) <;> (repeat' (first | (with_reducible exact subR) | (with_reducible exact subN) | (with_reducible refine subC ?_ ?_) | (with_reducible exact List.mem_cons_self) | (refine List.mem_cons_of_mem _ ?_) | (refine subT ?_) | (with_reducible refine subL ?_))))) b hb
    · exact offx q (by ((first | (refine memEq h ?_) | (refine memIn h ?_)) <;> (repeat' (first | (with_reducible exact subR) | (with_reducible exact subN) | (with_reducible refine subC ?_ ?_) | (with_reducible exact List.mem_cons_self) | (refine List.mem_cons_of_mem _ ?_) | (refine subT ?_) | (with_reducible refine subL ?_))))) b hb
  clear F11 N11 H11
  -- 19
  obtain ⟨ts12, tl12, tt12, tp12, ln12, pst12, pvs12, hp12, N12⟩ := H12
  refine wpAny_execs_cons (s19 (te := te) (x := S txt) (D := D) (K := K) (fx := (dd, listOf dus.toArray c2) :: (tl ++ [(dl, listOf us.toArray c)])) B F12 X T XB TB ⟨ts12, tl12, tt12, tp12, ln12, pst12, pvs12, hp12, newsSub N12 fun q hq => ?_⟩ hX4 hE1 offx R4 (by rw [S_len]; omega) hu hd fun h13 k13 F13 => ?_)
  · revert q; (repeat' (first | (with_reducible exact subR) | (with_reducible exact subN) | (with_reducible refine subC ?_ ?_) | (with_reducible exact List.mem_cons_self) | (refine List.mem_cons_of_mem _ ?_) | (refine subT ?_) | (with_reducible refine subL ?_)))
  · exact hret _ _ _ F13
end
end
local macro_rules | `(tactic| k_qdec) => `(tactic| decide +kernel)
set_option maxRecDepth 100000 in
set_option maxHeartbeats 8000000 in
theorem holdsT : PySem.Challenge.rw_io0017_01.Holds := by
  w_on
  refine holds_law said fun said' => ?_
  refine holds_open (q := lawView) (loose := looseN) (Xt := seenX) (XP := XL lawView []) (Yf := lawHook.obs) (Ya := lawHook.val) (YP := lawHook.says) (N := 10000) left lawHook.of lawHook.keeps (fun s e => xl_of s (Bool.and_eq_true_iff.mp e).1) XL.keeps (by rfl) (by rfl) (by rfl) (fun s e => recFacts_of (Bool.and_eq_true_iff.mp e).2) (by rfl) (by first | assumption | decide +kernel) (by decide +kernel) ⟨rfl, rfl, rfl, rfl, rfl, by decide +kernel⟩ ?hw ?hc
  case hw => w_witness2
  w_strict (k_go0; (all_goals try k_fold); (all_goals (rename News _ _ _ _ => NN; rename Fr _ _ _ _ => FF; rename Top _ _ _ _ _ _ => TT; rename Below _ _ _ _ => BB; rename Frag.In _ _ => KK; rename IntsAre _ _ => II; rename Heap.IsList _ _ _ => LL)); refine wpAny_mono (law_body (A₀ := callerA) (vX := none) BB (frPack FF _ ⟨rfl, trivial⟩) KK KK NN ?xX ?xE ?xL TT TT LL II ?xN ?xU ?xD ?xR) (fun _ _ h => h) (fun _ _ h => False.elim h); (case xX => assumption); (case xE => assumption); (case xU => decide +kernel); (case xD => decide +kernel); (case xL => exact Nat.lt_succ_self _); (case xN => omega); (case xR => intro h' k m' F'; refine ⟨.inl ⟨.bool true, _, [], rfl, fun _ => rfl, ReadsW.bool true, ?r2, fun _ => ⟨List.nodup_nil, fun _ h => nomatch h⟩⟩, F'.keep, rfl, by assumption⟩; case r2 => first | rfl | wrow_post))
end Mine
theorem PySem.Challenge.cw_io0017_01_holds : PySem.Challenge.rw_io0017_01.Holds := by
  exact Mine.holdsT
