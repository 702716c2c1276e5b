import PyProof.Rows.All
import Wide.All
import OpenK.AllK
import Wide.FinOn
import PySem.Challenge.RW_ko0066_01
open PySem PySem.W PySem.Calls PyProof.Rows
set_option Elab.async false
set_option maxRecDepth 100000
set_option linter.all false
set_option maxHeartbeats 0
set_option compiler.extract_closed false
namespace Mine
-- KBase
noncomputable section
noncomputable def stAt (p : Program) (i : Nat) : Stmt := p.main.body.getD i (.Pass default)
noncomputable def clsAt (p : Program) (i j : Nat) : Stmt := match stAt p i with
  | .ClassDef _ _ _ b _ _ _ _ _ _ _ => b.getD j (.Pass default)
  | s => s
noncomputable def fnParams : Stmt → Arguments
  | .FunctionDef _ a _ _ _ _ _ _ _ _ => a
  | _ => default
noncomputable def fnBody : Stmt → List Stmt
  | .FunctionDef _ _ b _ _ _ _ _ _ _ => b
  | _ => []
noncomputable def fnScope : Stmt → Scope
  | .FunctionDef _ _ _ _ _ _ sc _ _ _ => sc
  | _ => default
noncomputable def k2 (p : Program) (P : Params) : Obj := ⟨.none, none, (.dict (List.toArray [⟨PyData.keyHash P (Str.mk #[105, 109, 112, 111, 114, 116, 46, 108, 111, 97, 100, 101, 100, 46, 95, 115, 114, 101]), (.str (Str.mk #[105, 109, 112, 111, 114, 116, 46, 108, 111, 97, 100, 101, 100, 46, 95, 115, 114, 101]) 183), (.bool true)⟩, ⟨PyData.keyHash P "class._frozen_importlib.BuiltinImporter", (.str "class._frozen_importlib.BuiltinImporter" 185), (.ref 14)⟩, ⟨PyData.keyHash P (Str.mk #[119, 97, 116, 99, 104, 101, 100, 46, 105, 109, 112, 111, 114, 116]), (.str (Str.mk #[119, 97, 116, 99, 104, 101, 100, 46, 105, 109, 112, 111, 114, 116]) 206), (.ref 18)⟩, ⟨PyData.keyHash P "class._frozen_importlib.ModuleSpec", (.str "class._frozen_importlib.ModuleSpec" 216), (.ref 22)⟩, ⟨PyData.keyHash P "sys.modules.booked-epoch", (.str "sys.modules.booked-epoch" 245), (.int 4 0)⟩, ⟨PyData.keyHash P (Str.mk #[105, 109, 112, 111, 114, 116, 46, 108, 97, 116, 101, 114, 45, 108, 97, 105, 100, 46, 95, 115, 114, 101]), (.str (Str.mk #[105, 109, 112, 111, 114, 116, 46, 108, 97, 116, 101, 114, 45, 108, 97, 105, 100, 46, 95, 115, 114, 101]) 270), (.bool true)⟩, ⟨PyData.keyHash P "watched.library", (.str "watched.library" 272), (.ref 27)⟩, ⟨PyData.keyHash P "watched.library-objects", (.str "watched.library-objects" 0), (.str (Str.mk #[12, 30]) 0)⟩, ⟨PyData.keyHash P "watched.library-deep._sre", (.str "watched.library-deep._sre" 273), (.str (Str.mk #[4, 0, 0, 11, 4, 0, 0, 11, 4, 0, 0, 3, 4, 0, 0, 11, 8, 4, 100, 105, 99, 116, 2]) 0)⟩, ⟨PyData.keyHash P (Str.mk #[105, 109, 112, 111, 114, 116, 46, 108, 111, 97, 100, 101, 100, 46, 95, 99, 111, 108, 108, 101, 99, 116, 105, 111, 110, 115]), (.str (Str.mk #[105, 109, 112, 111, 114, 116, 46, 108, 111, 97, 100, 101, 100, 46, 95, 99, 111, 108, 108, 101, 99, 116, 105, 111, 110, 115]) 280), (.bool true)⟩, ⟨PyData.keyHash P "sys.modules.landed._collections", (.str "sys.modules.landed._collections" 294), (.bool true)⟩, ⟨PyData.keyHash P (Str.mk #[105, 109, 112, 111, 114, 116, 46, 108, 97, 116, 101, 114, 45, 108, 97, 105, 100, 46, 95, 99, 111, 108, 108, 101, 99, 116, 105, 111, 110, 115]), (.str (Str.mk #[105, 109, 112, 111, 114, 116, 46, 108, 97, 116, 101, 114, 45, 108, 97, 105, 100, 46, 95, 99, 111, 108, 108, 101, 99, 116, 105, 111, 110, 115]) 309), (.bool true)⟩, ⟨PyData.keyHash P "watched.library-deep._collections", (.str "watched.library-deep._collections" 311), (.str (Str.mk #[4, 0, 0, 29, 4, 0, 0, 29, 4, 0, 0, 3, 4, 0, 0, 29, 8, 4, 100, 105, 99, 116, 2]) 0)⟩, ⟨PyData.keyHash P "type.__subclasses__.OSError.0", (.str "type.__subclasses__.OSError.0" 605), (.int 106 0)⟩, ⟨PyData.keyHash P "type.__subclasses__.OSError.n", (.str "type.__subclasses__.OSError.n" 606), (.int 1 0)⟩]) 15), #[]⟩
noncomputable def k3 (p : Program) (P : Params) : Obj := ⟨(.type "dict"), none, (.dict (List.toArray [⟨PyData.keyHash P "__name__", (.str "__name__" 165), (.str "law_ko0066_01" 1435)⟩, ⟨PyData.keyHash P "__doc__", (.str "__doc__" 166), .none⟩, ⟨PyData.keyHash P "__package__", (.str "__package__" 167), .none⟩, ⟨PyData.keyHash P "__loader__", (.str "__loader__" 168), (.builtin "__main__.__loader__#opaque")⟩, ⟨PyData.keyHash P "__spec__", (.str "__spec__" 169), .none⟩, ⟨PyData.keyHash P "__annotations__", (.str "__annotations__" 170), (.ref 6)⟩, ⟨PyData.keyHash P "__builtins__", (.str "__builtins__" 171), (.ref 4)⟩, ⟨PyData.keyHash P "__file__", (.str "__file__" 173), (.str "/claim/cut.py" 172)⟩, ⟨PyData.keyHash P "__cached__", (.str "__cached__" 174), .none⟩, ⟨PyData.keyHash P "_sre", (.str "_sre" 275), (.ref 12)⟩, ⟨PyData.keyHash P "deque", (.str "deque" 317), (.type "collections.deque")⟩, ⟨PyData.keyHash P "_wall", (.str "_wall" 330), (.ref 44)⟩, ⟨PyData.keyHash P "_twin_re_1", (.str "_twin_re_1" 370), (.ref 49)⟩, ⟨PyData.keyHash P "translate", (.str "translate" 379), (.ref 56)⟩, ⟨PyData.keyHash P "_special_chars_map", (.str "_special_chars_map" 527), (.ref 58)⟩, ⟨PyData.keyHash P "escape", (.str "escape" 534), (.ref 68)⟩, ⟨PyData.keyHash P "_translate", (.str "_translate" 555), (.ref 75)⟩, ⟨PyData.keyHash P "_join_translated_parts", (.str "_join_translated_parts" 568), (.ref 82)⟩, ⟨PyData.keyHash P "_whence", (.str "_whence" 578), (.ref 89)⟩, ⟨PyData.keyHash P "_index", (.str "_index" 586), (.ref 96)⟩, ⟨PyData.keyHash P "UnsupportedOperation", (.str "UnsupportedOperation" 608), (.ref 106)⟩, ⟨PyData.keyHash P "IOBase", (.str "IOBase" 640), (.ref 126)⟩, ⟨PyData.keyHash P "BufferedIOBase", (.str "BufferedIOBase" 658), (.ref 141)⟩, ⟨PyData.keyHash P "TextIOBase", (.str "TextIOBase" 676), (.ref 153)⟩, ⟨PyData.keyHash P "BytesIO", (.str "BytesIO" 938), (.ref 383)⟩, ⟨PyData.keyHash P "StringIO", (.str "StringIO" 1225), (.ref 630)⟩, ⟨PyData.keyHash P "_kind", (.str "_kind" 1236), (.ref 639)⟩, ⟨PyData.keyHash P "_fspath", (.str "_fspath" 1245), (.ref 646)⟩, ⟨PyData.keyHash P "_check_arg_types", (.str "_check_arg_types" 1255), (.ref 653)⟩, ⟨PyData.keyHash P "isabs", (.str "isabs" 1262), (.ref 660)⟩, ⟨PyData.keyHash P "join", (.str "join" 1273), (.ref 667)⟩, ⟨PyData.keyHash P "dirname", (.str "dirname" 1283), (.ref 674)⟩, ⟨PyData.keyHash P "shlex", (.str "shlex" 1424), (.ref 765)⟩, ⟨PyData.keyHash P "split", (.str "split" 1434), (.ref 777)⟩, ⟨PyData.keyHash P "_law_figures", (.str "_law_figures" 1448), (.ref 784)⟩, ⟨PyData.keyHash P "_law_sign", (.str "_law_sign" 1457), (.ref 791)⟩, ⟨PyData.keyHash P "_law_bare", (.str "_law_bare" 1463), (.ref 796)⟩, ⟨PyData.keyHash P "_law_strands", (.str "_law_strands" 1477), (.ref 803)⟩, ⟨PyData.keyHash P "_law_marked", (.str "_law_marked" 1487), (.ref 810)⟩, ⟨PyData.keyHash P "_law_words", (.str "_law_words" 1499), (.ref 817)⟩, ⟨PyData.keyHash P "law", (.str "law" 1505), (.ref 822)⟩]) 41), #[]⟩
noncomputable def k4 (p : Program) (P : Params) : Obj := ⟨(.type "module"), (some 0), .plain, #[]⟩
noncomputable def k48 (p : Program) (P : Params) : Obj := ⟨(.type "tuple"), none, (.seq #[(.int 14 0), (.int 14 0), (.int 4 0), (.int 1 0), (.int 1 0), (.int 9 0), (.int 0 0), (.int 64 0), (.int 0 0), (.int 1342177280 0), (.int 0 0), (.int 0 0), (.int 0 0), (.int 0 0), (.int 0 0), (.int 17 0), (.int 0 0), (.int 13 0), (.int 11 0), (.int 9 0), (.int 0 0), (.int 64 0), (.int 0 0), (.int 1342177280 0), (.int 0 0), (.int 0 0), (.int 0 0), (.int 0 0), (.int 0 0), (.int 17 0), (.int 1 0), (.int 1 0)] 0), #[]⟩
noncomputable def k49 (p : Program) (P : Params) : Obj := ⟨(.type "re.Pattern"), none, (.fields #[(.str "([&~|])" 334), (.int 32 369), (.int 1 0), .none, .none, (.ref 48), (.int 0 0)]), #[]⟩
noncomputable def k55 (p : Program) (P : Params) : Obj := ⟨(.type "code"), none, (.fields #[(.str "translate" 371), (.str "translate" 372), (.str "/claim/cut.py" 373), (.int 8 0), (.int 1 0), (.int 0 0), (.int 0 0), (.int 3 0), (.ref 50), (.bool true), (.int 318 0), (.ref 51), .none, (.ref 52), (.ref 53), (.ref 54), (.int 377 0), (.int 8 0), (.str "/claim/cut.py" 378)]), #[]⟩
noncomputable def k56 (p : Program) (P : Params) : Obj := ⟨(.type "function"), none, (.func { name := "translate", qualname := "translate", params := fnParams (stAt p 5), body := .stmts (fnBody (stAt p 5)), scope := fnScope (stAt p 5), globals := 3, closure := [], defaults := .none, kwdefaults := .none, doc := .none, pyModule := (.str "cpy313.fnmatch" 331), annotations := none, code := (.ref 55), closureTuple := .none, builtins := 0 }), #[]⟩
noncomputable def k58 (p : Program) (P : Params) : Obj := ⟨(.type "dict"), none, (.dict (List.toArray [⟨40, (.int 40 383), (.str "\\(" 387)⟩, ⟨41, (.int 41 389), (.str "\\)" 393)⟩, ⟨91, (.int 91 395), (.str "\\[" 399)⟩, ⟨93, (.int 93 401), (.str "\\]" 405)⟩, ⟨123, (.int 123 407), (.str "\\{" 411)⟩, ⟨125, (.int 125 413), (.str "\\}" 417)⟩, ⟨63, (.int 63 419), (.str "\\?" 423)⟩, ⟨42, (.int 42 425), (.str "\\*" 429)⟩, ⟨43, (.int 43 431), (.str "\\+" 435)⟩, ⟨45, (.int 45 437), (.str "\\-" 441)⟩, ⟨124, (.int 124 443), (.str "\\|" 447)⟩, ⟨94, (.int 94 449), (.str "\\^" 453)⟩, ⟨36, (.int 36 455), (.str "\\$" 459)⟩, ⟨92, (.int 92 461), (.str "\\\\" 465)⟩, ⟨46, (.int 46 467), (.str "\\." 471)⟩, ⟨38, (.int 38 473), (.str "\\&" 477)⟩, ⟨126, (.int 126 479), (.str "\\~" 483)⟩, ⟨35, (.int 35 485), (.str "\\#" 489)⟩, ⟨32, (.int 32 491), (.str "\\ " 495)⟩, ⟨9, (.int 9 497), (.str (Str.mk #[92, 9]) 501)⟩, ⟨10, (.int 10 503), (.str (Str.mk #[92, 10]) 507)⟩, ⟨13, (.int 13 509), (.str (Str.mk #[92, 13]) 513)⟩, ⟨11, (.int 11 515), (.str (Str.mk #[92, 11]) 519)⟩, ⟨12, (.int 12 521), (.str (Str.mk #[92, 12]) 525)⟩]) 24), #[]⟩
noncomputable def k67 (p : Program) (P : Params) : Obj := ⟨(.type "code"), none, (.fields #[(.str "escape" 528), (.str "escape" 529), (.str "/claim/cut.py" 530), (.int 14 0), (.int 1 0), (.int 0 0), (.int 0 0), (.int 3 0), (.ref 62), (.bool true), (.int 318 0), (.ref 63), .none, (.ref 64), (.ref 65), (.ref 66), (.int 532 0), (.int 14 0), (.str "/claim/cut.py" 533)]), #[]⟩
noncomputable def k68 (p : Program) (P : Params) : Obj := ⟨(.type "function"), none, (.func { name := "escape", qualname := "escape", params := fnParams (stAt p 8), body := .stmts (fnBody (stAt p 8)), scope := fnScope (stAt p 8), globals := 3, closure := [], defaults := .none, kwdefaults := .none, doc := .none, pyModule := (.str "re" 380), annotations := none, code := (.ref 67), closureTuple := .none, builtins := 0 }), #[]⟩
noncomputable def k74 (p : Program) (P : Params) : Obj := ⟨(.type "code"), none, (.fields #[(.str "_translate" 537), (.str "_translate" 538), (.str "/claim/cut.py" 539), (.int 21 0), (.int 3 0), (.int 0 0), (.int 0 0), (.int 3 0), (.ref 69), (.bool true), (.int 318 0), (.ref 70), .none, (.ref 71), (.ref 72), (.ref 73), (.int 553 0), (.int 21 0), (.str "/claim/cut.py" 554)]), #[]⟩
noncomputable def k75 (p : Program) (P : Params) : Obj := ⟨(.type "function"), none, (.func { name := "_translate", qualname := "_translate", params := fnParams (stAt p 10), body := .stmts (fnBody (stAt p 10)), scope := fnScope (stAt p 10), globals := 3, closure := [], defaults := .none, kwdefaults := .none, doc := .none, pyModule := (.str "cpy313.fnmatch" 535), annotations := none, code := (.ref 74), closureTuple := .none, builtins := 0 }), #[]⟩
noncomputable def k81 (p : Program) (P : Params) : Obj := ⟨(.type "code"), none, (.fields #[(.str "_join_translated_parts" 556), (.str "_join_translated_parts" 557), (.str "/claim/cut.py" 558), (.int 83 0), (.int 2 0), (.int 0 0), (.int 0 0), (.int 3 0), (.ref 76), (.bool true), (.int 318 0), (.ref 77), .none, (.ref 78), (.ref 79), (.ref 80), (.int 566 0), (.int 83 0), (.str "/claim/cut.py" 567)]), #[]⟩
noncomputable def k82 (p : Program) (P : Params) : Obj := ⟨(.type "function"), none, (.func { name := "_join_translated_parts", qualname := "_join_translated_parts", params := fnParams (stAt p 11), body := .stmts (fnBody (stAt p 11)), scope := fnScope (stAt p 11), globals := 3, closure := [], defaults := .none, kwdefaults := .none, doc := .none, pyModule := (.str "cpy313.fnmatch" 535), annotations := none, code := (.ref 81), closureTuple := .none, builtins := 0 }), #[]⟩
noncomputable def k95 (p : Program) (P : Params) : Obj := ⟨(.type "code"), none, (.fields #[(.str "_index" 579), (.str "_index" 580), (.str "/claim/cut.py" 581), (.int 116 0), (.int 2 0), (.int 0 0), (.int 0 0), (.int 3 0), (.ref 90), (.bool true), (.int 318 0), (.ref 91), .none, (.ref 92), (.ref 93), (.ref 94), (.int 584 0), (.int 116 0), (.str "/claim/cut.py" 585)]), #[]⟩
noncomputable def k96 (p : Program) (P : Params) : Obj := ⟨(.type "function"), none, (.func { name := "_index", qualname := "_index", params := fnParams (stAt p 14), body := .stmts (fnBody (stAt p 14)), scope := fnScope (stAt p 14), globals := 3, closure := [], defaults := .none, kwdefaults := .none, doc := .none, pyModule := (.str "io" 569), annotations := none, code := (.ref 95), closureTuple := .none, builtins := 0 }), #[]⟩
noncomputable def k122 (p : Program) (P : Params) : Obj := ⟨(.type "code"), none, (.fields #[(.str "__new__" 623), (.str "IOBase.__new__" 624), (.str "/claim/cut.py" 625), (.int 128 0), (.int 1 0), (.int 1 0), (.int 0 0), (.int 15 0), (.ref 117), (.bool true), (.int 318 0), (.ref 118), .none, (.ref 119), (.ref 120), (.ref 121), (.int 629 0), (.int 128 0), (.str "/claim/cut.py" 630)]), #[]⟩
noncomputable def k123 (p : Program) (P : Params) : Obj := ⟨(.type "function"), none, (.func { name := "__new__", qualname := "IOBase.__new__", params := fnParams (clsAt p 16 1), body := .stmts (fnBody (clsAt p 16 1)), scope := fnScope (clsAt p 16 1), globals := 3, closure := [], defaults := .none, kwdefaults := .none, doc := .none, pyModule := (.str "io" 569), annotations := none, code := (.ref 122), closureTuple := .none, builtins := 0 }), #[]⟩
noncomputable def k125 (p : Program) (P : Params) : Obj := ⟨(.type "dict"), none, (.dict (List.toArray [⟨PyData.keyHash P "__module__", (.str "__module__" 616), (.str "io" 621)⟩, ⟨PyData.keyHash P "__firstlineno__", (.str "__firstlineno__" 620), (.int 125 619)⟩, ⟨PyData.keyHash P "__new__", (.str "__new__" 631), (.ref 127)⟩, ⟨PyData.keyHash P "__static_attributes__", (.str "__static_attributes__" 632), (.ref 124)⟩, ⟨PyData.keyHash P "__dict__", (.str "__dict__" 635), (.ref 128)⟩, ⟨PyData.keyHash P "__weakref__", (.str "__weakref__" 637), (.ref 129)⟩, ⟨PyData.keyHash P "__doc__", (.str "__doc__" 638), .none⟩]) 4), #[]⟩
noncomputable def k126 (p : Program) (P : Params) : Obj := ⟨(.type "type"), none, (.cls { name := "IOBase", bases := [(.type "object")], mro := [(.ref 126), (.type "object")], ns := 125, qualname := "IOBase", hasDict := true, slotNames := [], subclasses := [(.ref 141), (.ref 153)], abstract := false, hasDel := false }), #[none, none, (some (.str "IOBase" 609)), (some (.str "IOBase" 617)), (some .none), (some (.bool true))]⟩
noncomputable def k127 (p : Program) (P : Params) : Obj := ⟨(.type "staticmethod"), none, (.fields #[(.ref 123)]), #[]⟩
noncomputable def k151 (p : Program) (P : Params) : Obj := ⟨(.type "tuple"), none, (.seq #[] 0), #[]⟩
noncomputable def k152 (p : Program) (P : Params) : Obj := ⟨(.type "dict"), none, (.dict (List.toArray [⟨PyData.keyHash P "__module__", (.str "__module__" 666), (.str "io" 671)⟩, ⟨PyData.keyHash P "__firstlineno__", (.str "__firstlineno__" 670), (.int 134 669)⟩, ⟨PyData.keyHash P "__static_attributes__", (.str "__static_attributes__" 673), (.ref 151)⟩, ⟨PyData.keyHash P "__doc__", (.str "__doc__" 674), .none⟩]) 2), #[]⟩
noncomputable def k153 (p : Program) (P : Params) : Obj := ⟨(.type "type"), none, (.cls { name := "TextIOBase", bases := [(.ref 126)], mro := [(.ref 153), (.ref 126), (.type "object")], ns := 152, qualname := "TextIOBase", hasDict := true, slotNames := [], subclasses := [(.ref 630)], abstract := false, hasDel := false }), #[(some (.ref 144)), none, (some (.str "TextIOBase" 659)), (some (.str "TextIOBase" 667)), (some .none), (some (.bool true))]⟩
noncomputable def k383 (p : Program) (P : Params) : Obj := ⟨(.type "type"), none, (.cls { name := "BytesIO", bases := [(.ref 141)], mro := [(.ref 383), (.ref 141), (.ref 126), (.type "object")], ns := 382, qualname := "BytesIO", hasDict := true, slotNames := [], subclasses := [], abstract := false, hasDel := false }), #[(some (.ref 156)), none, (some (.str "BytesIO" 677)), (some (.str "BytesIO" 685)), (some .none), (some (.bool true))]⟩
noncomputable def k393 (p : Program) (P : Params) : Obj := ⟨(.type "tuple"), none, (.seq #[(.str "" 953), (.str (Str.mk #[10]) 954)] 0), #[]⟩
noncomputable def k399 (p : Program) (P : Params) : Obj := ⟨(.type "code"), none, (.fields #[(.str "__init__" 955), (.str "StringIO.__init__" 956), (.str "/claim/cut.py" 957), (.int 309 0), (.int 3 0), (.int 0 0), (.int 0 0), (.int 3 0), (.ref 394), (.bool true), (.int 318 0), (.ref 395), .none, (.ref 396), (.ref 397), (.ref 398), (.int 961 0), (.int 309 0), (.str "/claim/cut.py" 962)]), #[]⟩
noncomputable def k400 (p : Program) (P : Params) : Obj := ⟨(.type "function"), none, (.func { name := "__init__", qualname := "StringIO.__init__", params := fnParams (clsAt p 20 1), body := .stmts (fnBody (clsAt p 20 1)), scope := fnScope (clsAt p 20 1), globals := 3, closure := [], defaults := (.ref 393), kwdefaults := .none, doc := .none, pyModule := (.str "io" 569), annotations := none, code := (.ref 399), closureTuple := .none, builtins := 0 }), #[]⟩
noncomputable def k406 (p : Program) (P : Params) : Obj := ⟨(.type "code"), none, (.fields #[(.str "__translated" 964), (.str "StringIO.__translated" 965), (.str "/claim/cut.py" 966), (.int 322 0), (.int 2 0), (.int 0 0), (.int 0 0), (.int 3 0), (.ref 401), (.bool true), (.int 318 0), (.ref 402), .none, (.ref 403), (.ref 404), (.ref 405), (.int 970 0), (.int 322 0), (.str "/claim/cut.py" 971)]), #[]⟩
noncomputable def k407 (p : Program) (P : Params) : Obj := ⟨(.type "function"), none, (.func { name := "__translated", qualname := "StringIO.__translated", params := fnParams (clsAt p 20 2), body := .stmts (fnBody (clsAt p 20 2)), scope := fnScope (clsAt p 20 2), globals := 3, closure := [], defaults := .none, kwdefaults := .none, doc := .none, pyModule := (.str "io" 569), annotations := none, code := (.ref 406), closureTuple := .none, builtins := 0 }), #[]⟩
noncomputable def k413 (p : Program) (P : Params) : Obj := ⟨(.type "code"), none, (.fields #[(.str "__check" 973), (.str "StringIO.__check" 974), (.str "/claim/cut.py" 975), (.int 330 0), (.int 1 0), (.int 0 0), (.int 0 0), (.int 3 0), (.ref 408), (.bool true), (.int 318 0), (.ref 409), .none, (.ref 410), (.ref 411), (.ref 412), (.int 977 0), (.int 330 0), (.str "/claim/cut.py" 978)]), #[]⟩
noncomputable def k414 (p : Program) (P : Params) : Obj := ⟨(.type "function"), none, (.func { name := "__check", qualname := "StringIO.__check", params := fnParams (clsAt p 20 3), body := .stmts (fnBody (clsAt p 20 3)), scope := fnScope (clsAt p 20 3), globals := 3, closure := [], defaults := .none, kwdefaults := .none, doc := .none, pyModule := (.str "io" 569), annotations := none, code := (.ref 413), closureTuple := .none, builtins := 0 }), #[]⟩
noncomputable def k569 (p : Program) (P : Params) : Obj := ⟨(.type "tuple"), none, (.seq #[(.int (-1) 1146)] 0), #[]⟩
noncomputable def k575 (p : Program) (P : Params) : Obj := ⟨(.type "code"), none, (.fields #[(.str "read" 1147), (.str "StringIO.read" 1148), (.str "/claim/cut.py" 1149), (.int 452 0), (.int 2 0), (.int 2 0), (.int 0 0), (.int 3 0), (.ref 570), (.bool true), (.int 318 0), (.ref 571), .none, (.ref 572), (.ref 573), (.ref 574), (.int 1154 0), (.int 452 0), (.str "/claim/cut.py" 1155)]), #[]⟩
noncomputable def k576 (p : Program) (P : Params) : Obj := ⟨(.type "function"), none, (.func { name := "read", qualname := "StringIO.read", params := fnParams (clsAt p 20 25), body := .stmts (fnBody (clsAt p 20 25)), scope := fnScope (clsAt p 20 25), globals := 3, closure := [], defaults := (.ref 569), kwdefaults := .none, doc := .none, pyModule := (.str "io" 569), annotations := none, code := (.ref 575), closureTuple := .none, builtins := 0 }), #[]⟩
noncomputable def k629 (p : Program) (P : Params) : Obj := ⟨(.type "dict"), none, (.dict (List.toArray [⟨PyData.keyHash P "__module__", (.str "__module__" 946), (.str "_io" 951)⟩, ⟨PyData.keyHash P "__firstlineno__", (.str "__firstlineno__" 950), (.int 306 949)⟩, ⟨PyData.keyHash P "__init__", (.str "__init__" 963), (.ref 400)⟩, ⟨PyData.keyHash P "_StringIO__translated", (.str "_StringIO__translated" 972), (.ref 407)⟩, ⟨PyData.keyHash P "_StringIO__check", (.str "_StringIO__check" 979), (.ref 414)⟩, ⟨PyData.keyHash P "_StringIO__check_dot", (.str "_StringIO__check_dot" 986), (.ref 421)⟩, ⟨PyData.keyHash P "_StringIO__line", (.str "_StringIO__line" 1001), (.ref 428)⟩, ⟨PyData.keyHash P "closed", (.str "closed" 1009), (.ref 436)⟩, ⟨PyData.keyHash P "line_buffering", (.str "line_buffering" 1017), (.ref 444)⟩, ⟨PyData.keyHash P "newlines", (.str "newlines" 1025), (.ref 452)⟩, ⟨PyData.keyHash P "encoding", (.str "encoding" 1033), (.ref 460)⟩, ⟨PyData.keyHash P "errors", (.str "errors" 1041), (.ref 468)⟩, ⟨PyData.keyHash P "close", (.str "close" 1048), (.ref 475)⟩, ⟨PyData.keyHash P "__enter__", (.str "__enter__" 1055), (.ref 482)⟩, ⟨PyData.keyHash P "__exit__", (.str "__exit__" 1063), (.ref 489)⟩, ⟨PyData.keyHash P "readable", (.str "readable" 1070), (.ref 496)⟩, ⟨PyData.keyHash P "writable", (.str "writable" 1077), (.ref 503)⟩, ⟨PyData.keyHash P "seekable", (.str "seekable" 1084), (.ref 510)⟩, ⟨PyData.keyHash P "isatty", (.str "isatty" 1091), (.ref 517)⟩, ⟨PyData.keyHash P "flush", (.str "flush" 1098), (.ref 524)⟩, ⟨PyData.keyHash P "fileno", (.str "fileno" 1105), (.ref 531)⟩, ⟨PyData.keyHash P "detach", (.str "detach" 1112), (.ref 538)⟩, ⟨PyData.keyHash P "getvalue", (.str "getvalue" 1119), (.ref 545)⟩, ⟨PyData.keyHash P "tell", (.str "tell" 1126), (.ref 552)⟩, ⟨PyData.keyHash P "seek", (.str "seek" 1136), (.ref 560)⟩, ⟨PyData.keyHash P "truncate", (.str "truncate" 1144), (.ref 568)⟩, ⟨PyData.keyHash P "read", (.str "read" 1156), (.ref 576)⟩, ⟨PyData.keyHash P "readline", (.str "readline" 1166), (.ref 584)⟩, ⟨PyData.keyHash P "readlines", (.str "readlines" 1176), (.ref 592)⟩, ⟨PyData.keyHash P "__iter__", (.str "__iter__" 1183), (.ref 599)⟩, ⟨PyData.keyHash P "__next__", (.str "__next__" 1191), (.ref 606)⟩, ⟨PyData.keyHash P "write", (.str "write" 1203), (.ref 613)⟩, ⟨PyData.keyHash P "writelines", (.str "writelines" 1211), (.ref 620)⟩, ⟨PyData.keyHash P "__repr__", (.str "__repr__" 1218), (.ref 627)⟩, ⟨PyData.keyHash P "__static_attributes__", (.str "__static_attributes__" 1222), (.ref 628)⟩, ⟨PyData.keyHash P "__doc__", (.str "__doc__" 1223), .none⟩]) 2), #[]⟩
noncomputable def k630 (p : Program) (P : Params) : Obj := ⟨(.type "type"), none, (.cls { name := "StringIO", bases := [(.ref 153)], mro := [(.ref 630), (.ref 153), (.ref 126), (.type "object")], ns := 629, qualname := "StringIO", hasDict := true, slotNames := [], subclasses := [], abstract := false, hasDel := false }), #[(some (.ref 386)), none, (some (.str "StringIO" 939)), (some (.str "StringIO" 947)), (some .none), (some (.bool true))]⟩
noncomputable def k682 (p : Program) (P : Params) : Obj := ⟨(.type "tuple"), none, (.seq #[.none, .none, (.bool false), (.bool false)] 0), #[]⟩
noncomputable def k688 (p : Program) (P : Params) : Obj := ⟨(.type "code"), none, (.fields #[(.str "__init__" 1298), (.str "shlex.__init__" 1299), (.str "/claim/cut.py" 1300), (.int 577 0), (.int 5 0), (.int 0 0), (.int 0 0), (.int 3 0), (.ref 683), (.bool true), (.int 318 0), (.ref 684), .none, (.ref 685), (.ref 686), (.ref 687), (.int 1307 0), (.int 577 0), (.str "/claim/cut.py" 1308)]), #[]⟩
noncomputable def k689 (p : Program) (P : Params) : Obj := ⟨(.type "function"), none, (.func { name := "__init__", qualname := "shlex.__init__", params := fnParams (clsAt p 29 0), body := .stmts (fnBody (clsAt p 29 0)), scope := fnScope (clsAt p 29 0), globals := 3, closure := [], defaults := (.ref 682), kwdefaults := .none, doc := .none, pyModule := (.str "cpy313.shlex" 1284), annotations := none, code := (.ref 688), closureTuple := .none, builtins := 0 }), #[]⟩
noncomputable def k695 (p : Program) (P : Params) : Obj := ⟨(.type "code"), none, (.fields #[(.str "punctuation_chars" 1310), (.str "shlex.punctuation_chars" 1311), (.str "/claim/cut.py" 1312), (.int 618 0), (.int 1 0), (.int 0 0), (.int 0 0), (.int 3 0), (.ref 690), (.bool true), (.int 318 0), (.ref 691), .none, (.ref 692), (.ref 693), (.ref 694), (.int 1314 0), (.int 618 0), (.str "/claim/cut.py" 1315)]), #[]⟩
noncomputable def k696 (p : Program) (P : Params) : Obj := ⟨(.type "function"), none, (.func { name := "punctuation_chars", qualname := "shlex.punctuation_chars", params := fnParams (clsAt p 29 1), body := .stmts (fnBody (clsAt p 29 1)), scope := fnScope (clsAt p 29 1), globals := 3, closure := [], defaults := .none, kwdefaults := .none, doc := .none, pyModule := (.str "cpy313.shlex" 1284), annotations := none, code := (.ref 695), closureTuple := .none, builtins := 0 }), #[]⟩
noncomputable def k697 (p : Program) (P : Params) : Obj := ⟨(.type "property"), none, (.fields #[(.ref 696), .none, .none, .none, (.str "punctuation_chars" 1317), (.bool false)]), #[]⟩
noncomputable def k725 (p : Program) (P : Params) : Obj := ⟨(.type "code"), none, (.fields #[(.str "get_token" 1342), (.str "shlex.get_token" 1343), (.str "/claim/cut.py" 1344), (.int 645 0), (.int 1 0), (.int 0 0), (.int 0 0), (.int 3 0), (.ref 720), (.bool true), (.int 318 0), (.ref 721), .none, (.ref 722), (.ref 723), (.ref 724), (.int 1351 0), (.int 645 0), (.str "/claim/cut.py" 1352)]), #[]⟩
noncomputable def k726 (p : Program) (P : Params) : Obj := ⟨(.type "function"), none, (.func { name := "get_token", qualname := "shlex.get_token", params := fnParams (clsAt p 29 5), body := .stmts (fnBody (clsAt p 29 5)), scope := fnScope (clsAt p 29 5), globals := 3, closure := [], defaults := .none, kwdefaults := .none, doc := .none, pyModule := (.str "cpy313.shlex" 1284), annotations := none, code := (.ref 725), closureTuple := .none, builtins := 0 }), #[]⟩
noncomputable def k732 (p : Program) (P : Params) : Obj := ⟨(.type "code"), none, (.fields #[(.str "read_token" 1354), (.str "shlex.read_token" 1355), (.str "/claim/cut.py" 1356), (.int 672 0), (.int 1 0), (.int 0 0), (.int 0 0), (.int 3 0), (.ref 727), (.bool true), (.int 318 0), (.ref 728), .none, (.ref 729), (.ref 730), (.ref 731), (.int 1362 0), (.int 672 0), (.str "/claim/cut.py" 1363)]), #[]⟩
noncomputable def k733 (p : Program) (P : Params) : Obj := ⟨(.type "function"), none, (.func { name := "read_token", qualname := "shlex.read_token", params := fnParams (clsAt p 29 6), body := .stmts (fnBody (clsAt p 29 6)), scope := fnScope (clsAt p 29 6), globals := 3, closure := [], defaults := .none, kwdefaults := .none, doc := .none, pyModule := (.str "cpy313.shlex" 1284), annotations := none, code := (.ref 732), closureTuple := .none, builtins := 0 }), #[]⟩
noncomputable def k754 (p : Program) (P : Params) : Obj := ⟨(.type "code"), none, (.fields #[(.str "__iter__" 1382), (.str "shlex.__iter__" 1383), (.str "/claim/cut.py" 1384), (.int 819 0), (.int 1 0), (.int 0 0), (.int 0 0), (.int 3 0), (.ref 749), (.bool true), (.int 318 0), (.ref 750), .none, (.ref 751), (.ref 752), (.ref 753), (.int 1386 0), (.int 819 0), (.str "/claim/cut.py" 1387)]), #[]⟩
noncomputable def k755 (p : Program) (P : Params) : Obj := ⟨(.type "function"), none, (.func { name := "__iter__", qualname := "shlex.__iter__", params := fnParams (clsAt p 29 9), body := .stmts (fnBody (clsAt p 29 9)), scope := fnScope (clsAt p 29 9), globals := 3, closure := [], defaults := .none, kwdefaults := .none, doc := .none, pyModule := (.str "cpy313.shlex" 1284), annotations := none, code := (.ref 754), closureTuple := .none, builtins := 0 }), #[]⟩
noncomputable def k761 (p : Program) (P : Params) : Obj := ⟨(.type "code"), none, (.fields #[(.str "__next__" 1389), (.str "shlex.__next__" 1390), (.str "/claim/cut.py" 1391), (.int 822 0), (.int 1 0), (.int 0 0), (.int 0 0), (.int 3 0), (.ref 756), (.bool true), (.int 318 0), (.ref 757), .none, (.ref 758), (.ref 759), (.ref 760), (.int 1394 0), (.int 822 0), (.str "/claim/cut.py" 1395)]), #[]⟩
noncomputable def k762 (p : Program) (P : Params) : Obj := ⟨(.type "function"), none, (.func { name := "__next__", qualname := "shlex.__next__", params := fnParams (clsAt p 29 10), body := .stmts (fnBody (clsAt p 29 10)), scope := fnScope (clsAt p 29 10), globals := 3, closure := [], defaults := .none, kwdefaults := .none, doc := .none, pyModule := (.str "cpy313.shlex" 1284), annotations := none, code := (.ref 761), closureTuple := .none, builtins := 0 }), #[]⟩
noncomputable def k764 (p : Program) (P : Params) : Obj := ⟨(.type "dict"), none, (.dict (List.toArray [⟨PyData.keyHash P "__module__", (.str "__module__" 1293), (.str "cpy313.shlex" 1284)⟩, ⟨PyData.keyHash P "__firstlineno__", (.str "__firstlineno__" 1297), (.int 575 1296)⟩, ⟨PyData.keyHash P "__init__", (.str "__init__" 1309), (.ref 689)⟩, ⟨PyData.keyHash P "punctuation_chars", (.str "punctuation_chars" 1317), (.ref 697)⟩, ⟨PyData.keyHash P "push_token", (.str "push_token" 1325), (.ref 704)⟩, ⟨PyData.keyHash P "push_source", (.str "push_source" 1334), (.ref 712)⟩, ⟨PyData.keyHash P "pop_source", (.str "pop_source" 1341), (.ref 719)⟩, ⟨PyData.keyHash P "get_token", (.str "get_token" 1353), (.ref 726)⟩, ⟨PyData.keyHash P "read_token", (.str "read_token" 1364), (.ref 733)⟩, ⟨PyData.keyHash P "sourcehook", (.str "sourcehook" 1372), (.ref 740)⟩, ⟨PyData.keyHash P "error_leader", (.str "error_leader" 1381), (.ref 748)⟩, ⟨PyData.keyHash P "__iter__", (.str "__iter__" 1388), (.ref 755)⟩, ⟨PyData.keyHash P "__next__", (.str "__next__" 1396), (.ref 762)⟩, ⟨PyData.keyHash P "__static_attributes__", (.str "__static_attributes__" 1417), (.ref 763)⟩, ⟨PyData.keyHash P "__dict__", (.str "__dict__" 1419), (.ref 766)⟩, ⟨PyData.keyHash P "__weakref__", (.str "__weakref__" 1421), (.ref 767)⟩, ⟨PyData.keyHash P "__doc__", (.str "__doc__" 1422), .none⟩]) 4), #[]⟩
noncomputable def k765 (p : Program) (P : Params) : Obj := ⟨(.type "type"), none, (.cls { name := "shlex", bases := [(.type "object")], mro := [(.ref 765), (.type "object")], ns := 764, qualname := "shlex", hasDict := true, slotNames := [], subclasses := [], abstract := false, hasDel := false }), #[none, none, (some (.str "shlex" 1286)), (some (.str "shlex" 1294)), (some (.builtin "object.__new__")), (some (.bool true))]⟩
noncomputable def k770 (p : Program) (P : Params) : Obj := ⟨(.type "tuple"), none, (.seq #[(.bool false), (.bool true)] 0), #[]⟩
noncomputable def k776 (p : Program) (P : Params) : Obj := ⟨(.type "code"), none, (.fields #[(.str "split" 1425), (.str "split" 1426), (.str "/claim/cut.py" 1427), (.int 827 0), (.int 3 0), (.int 0 0), (.int 0 0), (.int 3 0), (.ref 771), (.bool true), (.int 318 0), (.ref 772), .none, (.ref 773), (.ref 774), (.ref 775), (.int 1432 0), (.int 827 0), (.str "/claim/cut.py" 1433)]), #[]⟩
noncomputable def k777 (p : Program) (P : Params) : Obj := ⟨(.type "function"), none, (.func { name := "split", qualname := "split", params := fnParams (stAt p 30), body := .stmts (fnBody (stAt p 30)), scope := fnScope (stAt p 30), globals := 3, closure := [], defaults := (.ref 770), kwdefaults := .none, doc := .none, pyModule := (.str "cpy313.shlex" 1284), annotations := none, code := (.ref 776), closureTuple := .none, builtins := 0 }), #[]⟩
noncomputable def k783 (p : Program) (P : Params) : Obj := ⟨(.type "code"), none, (.fields #[(.str "_law_figures" 1437), (.str "_law_figures" 1438), (.str "/claim/cut.py" 1439), (.int 836 0), (.int 3 0), (.int 0 0), (.int 0 0), (.int 3 0), (.ref 778), (.bool true), (.int 318 0), (.ref 779), .none, (.ref 780), (.ref 781), (.ref 782), (.int 1446 0), (.int 836 0), (.str "/claim/cut.py" 1447)]), #[]⟩
noncomputable def k784 (p : Program) (P : Params) : Obj := ⟨(.type "function"), none, (.func { name := "_law_figures", qualname := "_law_figures", params := fnParams (stAt p 32), body := .stmts (fnBody (stAt p 32)), scope := fnScope (stAt p 32), globals := 3, closure := [], defaults := .none, kwdefaults := .none, doc := .none, pyModule := (.str "law_ko0066_01" 1435), annotations := none, code := (.ref 783), closureTuple := .none, builtins := 0 }), #[]⟩
noncomputable def k790 (p : Program) (P : Params) : Obj := ⟨(.type "code"), none, (.fields #[(.str "_law_sign" 1449), (.str "_law_sign" 1450), (.str "/claim/cut.py" 1451), (.int 845 0), (.int 1 0), (.int 0 0), (.int 0 0), (.int 3 0), (.ref 785), (.bool true), (.int 318 0), (.ref 786), .none, (.ref 787), (.ref 788), (.ref 789), (.int 1455 0), (.int 845 0), (.str "/claim/cut.py" 1456)]), #[]⟩
noncomputable def k791 (p : Program) (P : Params) : Obj := ⟨(.type "function"), none, (.func { name := "_law_sign", qualname := "_law_sign", params := fnParams (stAt p 33), body := .stmts (fnBody (stAt p 33)), scope := fnScope (stAt p 33), globals := 3, closure := [], defaults := .none, kwdefaults := .none, doc := .none, pyModule := (.str "law_ko0066_01" 1435), annotations := none, code := (.ref 790), closureTuple := .none, builtins := 0 }), #[]⟩
noncomputable def k795 (p : Program) (P : Params) : Obj := ⟨(.type "code"), none, (.fields #[(.str "_law_bare" 1458), (.str "_law_bare" 1459), (.str "/claim/cut.py" 1460), (.int 853 0), (.int 1 0), (.int 0 0), (.int 0 0), (.int 3 0), (.ref 792), (.bool true), (.int 318 0), (.ref 793), .none, .none, .none, (.ref 794), (.int 1461 0), (.int 853 0), (.str "/claim/cut.py" 1462)]), #[]⟩
noncomputable def k796 (p : Program) (P : Params) : Obj := ⟨(.type "function"), none, (.func { name := "_law_bare", qualname := "_law_bare", params := fnParams (stAt p 34), body := .stmts (fnBody (stAt p 34)), scope := fnScope (stAt p 34), globals := 3, closure := [], defaults := .none, kwdefaults := .none, doc := .none, pyModule := (.str "law_ko0066_01" 1435), annotations := none, code := (.ref 795), closureTuple := .none, builtins := 0 }), #[]⟩
noncomputable def k802 (p : Program) (P : Params) : Obj := ⟨(.type "code"), none, (.fields #[(.str "_law_strands" 1464), (.str "_law_strands" 1465), (.str "/claim/cut.py" 1466), (.int 855 0), (.int 1 0), (.int 0 0), (.int 0 0), (.int 3 0), (.ref 797), (.bool true), (.int 318 0), (.ref 798), .none, (.ref 799), (.ref 800), (.ref 801), (.int 1475 0), (.int 855 0), (.str "/claim/cut.py" 1476)]), #[]⟩
noncomputable def k803 (p : Program) (P : Params) : Obj := ⟨(.type "function"), none, (.func { name := "_law_strands", qualname := "_law_strands", params := fnParams (stAt p 35), body := .stmts (fnBody (stAt p 35)), scope := fnScope (stAt p 35), globals := 3, closure := [], defaults := .none, kwdefaults := .none, doc := .none, pyModule := (.str "law_ko0066_01" 1435), annotations := none, code := (.ref 802), closureTuple := .none, builtins := 0 }), #[]⟩
noncomputable def k809 (p : Program) (P : Params) : Obj := ⟨(.type "code"), none, (.fields #[(.str "_law_marked" 1478), (.str "_law_marked" 1479), (.str "/claim/cut.py" 1480), (.int 877 0), (.int 1 0), (.int 0 0), (.int 0 0), (.int 3 0), (.ref 804), (.bool true), (.int 318 0), (.ref 805), .none, (.ref 806), (.ref 807), (.ref 808), (.int 1485 0), (.int 877 0), (.str "/claim/cut.py" 1486)]), #[]⟩
noncomputable def k810 (p : Program) (P : Params) : Obj := ⟨(.type "function"), none, (.func { name := "_law_marked", qualname := "_law_marked", params := fnParams (stAt p 36), body := .stmts (fnBody (stAt p 36)), scope := fnScope (stAt p 36), globals := 3, closure := [], defaults := .none, kwdefaults := .none, doc := .none, pyModule := (.str "law_ko0066_01" 1435), annotations := none, code := (.ref 809), closureTuple := .none, builtins := 0 }), #[]⟩
noncomputable def k816 (p : Program) (P : Params) : Obj := ⟨(.type "code"), none, (.fields #[(.str "_law_words" 1488), (.str "_law_words" 1489), (.str "/claim/cut.py" 1490), (.int 886 0), (.int 1 0), (.int 0 0), (.int 0 0), (.int 3 0), (.ref 811), (.bool true), (.int 318 0), (.ref 812), .none, (.ref 813), (.ref 814), (.ref 815), (.int 1497 0), (.int 886 0), (.str "/claim/cut.py" 1498)]), #[]⟩
noncomputable def k817 (p : Program) (P : Params) : Obj := ⟨(.type "function"), none, (.func { name := "_law_words", qualname := "_law_words", params := fnParams (stAt p 37), body := .stmts (fnBody (stAt p 37)), scope := fnScope (stAt p 37), globals := 3, closure := [], defaults := .none, kwdefaults := .none, doc := .none, pyModule := (.str "law_ko0066_01" 1435), annotations := none, code := (.ref 816), closureTuple := .none, builtins := 0 }), #[]⟩
noncomputable def k821 (p : Program) (P : Params) : Obj := ⟨(.type "code"), none, (.fields #[(.str "law" 1500), (.str "law" 1501), (.str "/claim/cut.py" 1502), (.int 906 0), (.int 1 0), (.int 0 0), (.int 0 0), (.int 3 0), (.ref 818), (.bool true), (.int 318 0), (.ref 819), .none, .none, .none, (.ref 820), (.int 1503 0), (.int 906 0), (.str "/claim/cut.py" 1504)]), #[]⟩
noncomputable def k822 (p : Program) (P : Params) : Obj := ⟨(.type "function"), none, (.func { name := "law", qualname := "law", params := fnParams (stAt p 38), body := .stmts (fnBody (stAt p 38)), scope := fnScope (stAt p 38), globals := 3, closure := [], defaults := .none, kwdefaults := .none, doc := .none, pyModule := (.str "law_ko0066_01" 1435), annotations := none, code := (.ref 821), closureTuple := .none, builtins := 0 }), #[]⟩
noncomputable def Kf (p : Program) (P : Params) : Frag := [(2, k2 p P), (3, k3 p P), (4, k4 p P), (48, k48 p P), (49, k49 p P), (55, k55 p P), (56, k56 p P), (58, k58 p P), (67, k67 p P), (68, k68 p P), (74, k74 p P), (75, k75 p P), (81, k81 p P), (82, k82 p P), (95, k95 p P), (96, k96 p P), (122, k122 p P), (123, k123 p P), (125, k125 p P), (126, k126 p P), (127, k127 p P), (151, k151 p P), (152, k152 p P), (153, k153 p P), (383, k383 p P), (393, k393 p P), (399, k399 p P), (400, k400 p P), (406, k406 p P), (407, k407 p P), (413, k413 p P), (414, k414 p P), (569, k569 p P), (575, k575 p P), (576, k576 p P), (629, k629 p P), (630, k630 p P), (682, k682 p P), (688, k688 p P), (689, k689 p P), (695, k695 p P), (696, k696 p P), (697, k697 p P), (725, k725 p P), (726, k726 p P), (732, k732 p P), (733, k733 p P), (754, k754 p P), (755, k755 p P), (761, k761 p P), (762, k762 p P), (764, k764 p P), (765, k765 p P), (770, k770 p P), (776, k776 p P), (777, k777 p P), (783, k783 p P), (784, k784 p P), (790, k790 p P), (791, k791 p P), (795, k795 p P), (796, k796 p P), (802, k802 p P), (803, k803 p P), (809, k809 p P), (810, k810 p P), (816, k816 p P), (817, k817 p P), (821, k821 p P), (822, k822 p P)]
end
-- MTbl
section
section
open Lean
def wkAtom (c : TSyntax `ident) (t : String) : MacroM (TSyntax `term) :=
  match t with
  | "_" => `(_)
  | "?_" => `(?_)
  | "-1" => `(-1)
  | "C0" => return c
  | "S" => `(by with_reducible assumption)
  | "A" => `(by assumption)
  | "K" => `(by kernel_rfl)
  | "L" => `(by kernel_rfl!)
  | "D" => `(by decide +kernel)
  | "E" => `(by decide)
  | "X" => `(by intro e; cases e)
  | _ => match t.toList with
    | '?' :: r => do let x := mkIdent (String.ofList r).toName; `(?$x:ident)
    | '\'' :: r => return Syntax.mkStrLit (String.ofList r)
    | '#' :: r => return Syntax.mkNumLit (String.ofList r)
    | '%' :: r => do let s := Syntax.mkStrLit (String.ofList (r.map fun x => if x = '~' then ' ' else x)); `(by walk_at $s:str)
    | _ => return mkIdent t.toName
def wkApp (a : List (TSyntax `term)) : MacroM (TSyntax `term) :=
  match a with
  | [] => Macro.throwUnsupported
  | [x] => return x
  | f :: r => let r := r.toArray; `($f $r*)
def wkArg (c : TSyntax `ident) (st : List (List (TSyntax `term))) (t : String) : MacroM (List (List (TSyntax `term))) :=
  match t, st with
  | "(", st => return [] :: st
  | ")", a :: b :: st => do
    let x ← wkApp a.reverse
    let x ← `(($x))
    return (x :: b) :: st
  | t, a :: st => do
    let x ← wkAtom c t
    return (x :: a) :: st
  | _, [] => Macro.throwUnsupported
def wkTerm (c : TSyntax `ident) (t : List String) : MacroM (TSyntax `term) := do
  match ← t.foldlM (wkArg c) [[]] with
  | [a] => wkApp a.reverse
  | _ => Macro.throwUnsupported
def wkIntro (n : Nat) (l : List (TSyntax `term)) : MacroM (TSyntax `tactic) := do
  let h ← `(_)
  let a := (List.replicate n h ++ l).toArray
  `(tactic| intro $a*)
def wkTac0 (c : TSyntax `ident) (t : List String) : MacroM (TSyntax `tactic) :=
  match t with
    | "r" :: r => do let x ← wkTerm c r; `(tactic| refine' $x)
    | "q" :: r => do let x ← wkTerm c r; `(tactic| refine $x)
    | "w" :: r => do let x ← wkTerm c r; `(tactic| with_reducible refine $x)
    | "x" :: r => do let x ← wkTerm c r; `(tactic| with_reducible exact $x)
    | "e" :: r => do let x ← wkTerm c r; `(tactic| exact $x)
    | "p" :: r => do let x ← wkTerm c r; `(tactic| apply $x)
    | "m" :: r => do let s := Syntax.mkStrLit (" ".intercalate r); `(tactic| walk_at $s:str)
    | ["c"] => `(tactic| clear $c:ident)
    | ["i", k] => wkIntro k.toNat! []
    | ["k", k, j] => do
      let x ← `(k0)
      let y ← `(k1)
      let l := if j = "2" then [x, y] else [x]
      let t ← wkIntro k.toNat! l
      let l : Array (TSyntax `ident) := (l.map fun x => ⟨x.raw⟩).toArray
      `(tactic| ($t:tactic; clear $l*))
    | ["S"] => `(tactic| with_reducible assumption)
    | ["A"] => `(tactic| assumption)
    | ["K"] => `(tactic| kernel_rfl)
    | ["L"] => `(tactic| kernel_rfl!)
    | ["D"] => `(tactic| decide +kernel)
    | ["E"] => `(tactic| decide)
    | ["R"] => `(tactic| rfl)
    | ["l"] => `(tactic| lia)
    | ["b"] => `(tactic| boot_by_name)
    | ["d"] => `(tactic| try dsimp only)
    | _ => Macro.throwUnsupported
def wkTac (c : TSyntax `ident) (t : List String) : MacroM (TSyntax `tactic) :=
  match t with
  | "h" :: x :: r => do let k ← wkTac0 c r; let x := mkIdent x.toName; `(tactic| (case $x:ident => $k:tactic))
  | t => wkTac0 c t
def wkSeq (c : TSyntax `ident) (l : List (List String)) : MacroM (TSyntax `tactic) := do
  match (← l.mapM (wkTac c)).reverse with
  | x :: r => r.foldlM (fun y x => `(tactic| ($x:tactic; $y:tactic))) x
  | [] => Macro.throwUnsupported
def wkSplit (x : String) (l : List String) : List (List String) :=
  l.foldr (fun t s => match s with
    | a :: b => if t = x then [] :: a :: b else (t :: a) :: b
    | [] => [[t]]) [[]]
def wkRow (pat spec : String) : MacroM (TSyntax `tactic) := do
  let c : TSyntax `term ← `(C0)
  let c : TSyntax `ident := ⟨c.raw⟩
  let sp := spec.splitOn " "
  let a ← wkSeq c (wkSplit "|" sp)
  let a ← if sp.contains "C0" then (do let at' := mkIdent `At; `(tactic| ((with_reducible rename $at' _ _ _ _ _ _ => $c:ident); $a:tactic))) else pure a
  if pat = "" then return a
  let ps := pat.splitOn " "
  let p ← match ps with
    | "~(" :: r => do let x ← wkTerm c ("(" :: r); `(wpAny _ _ $x _ _ _)
    | _ => wkTerm c ps
  `(tactic| ((with_reducible show $p); $a:tactic))
def wkAlt (l : String) : MacroM (TSyntax `tactic) :=
  match l.splitOn ";" with
  | [_, p, t] => wkRow p t
  | _ => Macro.throwUnsupported
def wkFirst (l : List (TSyntax `tactic)) : MacroM (TSyntax `tactic) :=
  match l.reverse with
  | x :: r => r.foldlM (fun y x => `(tactic| first | $x:tactic | $y:tactic)) x
  | [] => Macro.throwUnsupported
def wkTbl : String := "
mm;~( execs _ _ );m m:execs
mm;~( exec _ _ );m m:exec
m:exec;~( exec ( Stmt.Assign _ _ _ ) _ );m m:exec:Stmt.Assign
m:exec;~( exec ( Stmt.AugAssign _ _ _ _ ) _ );m m:exec:Stmt.AugAssign
m:exec;~( exec ( Stmt.If _ _ _ _ ) _ );m m:exec:Stmt.If
m:exec;~( exec ( Stmt.Return _ _ ) _ );m m:exec:Stmt.Return
m:exec;~( exec ( Stmt.Pass _ ) _ );m m:exec:Stmt.Pass
m:exec;~( exec ( Stmt.Break _ ) _ );m m:exec:Stmt.Break
m:exec;~( exec ( Stmt.Continue _ ) _ );m m:exec:Stmt.Continue
m:exec;~( exec ( Stmt.Expr _ _ ) _ );m m:exec:Stmt.Expr
m:exec;~( exec ( Stmt.Assert _ _ _ ) _ );m m:exec:Stmt.Assert
mm;~( eval _ _ );m m:eval
m:eval;~( eval ( Expr.BinOp _ _ _ _ ) _ );m m:eval:Expr.BinOp
m:eval;~( eval ( Expr.Compare _ _ _ _ ) _ );m m:eval:Expr.Compare
m:eval;~( eval ( Expr.UnaryOp _ _ _ ) _ );m m:eval:Expr.UnaryOp
m:eval;~( eval ( Expr.Call _ _ _ _ ) _ );m m:eval:Expr.Call
m:eval;~( eval ( Expr.Constant _ _ _ ) _ );m m:eval:Expr.Constant
m:eval;~( eval ( Expr.List _ _ ) _ );m m:eval:Expr.List
m:eval;~( eval ( Expr.Subscript _ _ _ ) _ );m m:eval:Expr.Subscript
m:eval;~( eval ( Expr.BoolOp _ _ _ ) _ );m m:eval:Expr.BoolOp
m:eval;~( eval ( Expr.Name _ _ ) _ );m m:eval:Expr.Name
m:eval;~( eval ( Expr.Tuple _ _ _ ) _ );m m:eval:Expr.Tuple
m:eval;~( eval ( Expr.Attribute _ _ _ ) _ );m m:eval:Expr.Attribute
mm;~( isTrue _ _ _ );m m:isTrue
m:isTrue;~( isTrue ( Expr.Compare _ _ _ _ ) _ _ );m m:isTrue:Expr.Compare
m:isTrue;~( isTrue ( Expr.UnaryOp _ _ _ ) _ _ );m m:isTrue:Expr.UnaryOp
m:isTrue;~( isTrue ( Expr.BoolOp _ _ _ ) _ _ );m m:isTrue:Expr.BoolOp
m:isTrue;~( isTrue ( Expr.Name _ _ ) _ _ );m m:isTrue:Expr.Name
m:isTrue;~( isTrue ( Expr.Attribute _ _ _ ) _ _ );m m:isTrue:Expr.Attribute
m:isTrue;~( isTrue ( Expr.Constant _ _ _ ) _ _ );m m:isTrue:Expr.Constant
m:isTrue;~( isTrue ( Expr.Call _ _ _ _ ) _ _ );m m:isTrue:Expr.Call
mm;~( allTrue _ _ _ );m m:allTrue
mm;~( truthy _ );m m:truthy
mm;~( loadName _ _ );m m:loadName
mm;~( storeName _ _ _ );m m:storeName
mm;~( binaryOp _ _ _ );m m:binaryOp
mm;~( inplaceOp _ _ _ );m m:inplaceOp
mm;~( compareOp _ _ _ );m m:compareOp
mm;~( callWith _ _ _ _ _ );m m:callWith
mm;~( spliced _ );m m:spliced
mm;~( newList _ );m m:newList
mm;~( assign _ _ _ );m m:assign
mm;~( evalPart _ _ );m m:evalPart
mm;~( call _ _ );m m:call
mm;~( getMethod _ _ _ );m m:getMethod
mm;~( subscriptTail _ _ _ _ );m m:subscriptTail
mm;~( unaryOp _ _ );m m:unaryOp
mm;~( getItem _ _ );m m:getItem
mm;~( setItem _ _ _ );m m:setItem
mm;~( getAttr _ _ _ );m m:getAttr
mm;~( newTuple _ );m m:newTuple
mm;~( setAttr _ _ _ );m m:setAttr
mm;;m mx
mm;;m hout
m:compareOp;~( compareOp CmpOp.Eq Value.none Value.none );q PySem.EqNone.eq_none_none ?_
m:compareOp;~( compareOp CmpOp.Eq ( Value.str _ _ ) Value.none );q PySem.EqNone.eq_str_none ?_
mx;ite ( Eq ( not Bool.false ) Bool.true ) _ _;q mxNF ?_
mx;ite ( Eq ( not Bool.true ) Bool.true ) _ _;q mxNT ?_
m:truthy;~( truthy ( Value.ref _ ) );r truDeq C0 ?ha ?_ | h ha e At.keep C0 _ _ S | c | i 2
m:call;~( call ( Value.type 'collections.deque ) _ );q callDeque C0 ?_ | c | i 3
m:callWith;~( callWith _ ( Value.ref ( OfNat.ofNat _ ) ) _ ( backTo _ ( starEach List.nil _ ) ) List.nil );q callWith_K0 ( Gd.K ( At.gd C0 S ) ) K ?_
m:call;~( call ( Value.type 'int ) ( List.cons ( Value.int _ _ ) List.nil ) );q call_int_int ?_
m:call;~( call ( Value.type 'type ) ( List.cons ( Value.str _ _ ) List.nil ) );q call_type_of ( typeIs_str _ _ _ ) D ?_
m:call;~( call ( Value.type 'type ) ( List.cons ( Value.int _ _ ) List.nil ) );q call_type_of ( typeIs_int _ _ _ ) D ?_
m:compareOp;~( compareOp CmpOp.IsNot ( Value.type _ ) ( Value.type _ ) );q wpAny_isNot_self rfl ?_
m:compareOp;~( compareOp CmpOp.IsNot ( Value.type _ ) ( Value.type _ ) );q wpAny_isNot_other rfl E ?_
m:compareOp;~( compareOp CmpOp.Is _ Value.none );q wpAny_is_self rfl ?_
m:compareOp;~( compareOp CmpOp.Is _ Value.none );q wpAny_is_other rfl X ?_
m:compareOp;~( compareOp CmpOp.IsNot _ Value.none );q wpAny_isNot_self rfl ?_
m:compareOp;~( compareOp CmpOp.IsNot _ Value.none );q wpAny_isNot_other rfl X ?_
m:getMethod;~( getMethod ( Value.ref _ ) ( Str.ofString '_StringIO__translated ) _ );r methF #407 C0 S ?hx ?hd ?hv ?k1 ?k2 ?k3 ?_ | h hx m memr | h hd m memr | h hv m mm lk | h k1 K | h k2 K | h k3 K
m:getMethod;~( getMethod ( Value.ref _ ) ( Str.ofString '_StringIO__check ) _ );r methF #414 C0 S ?hx ?hd ?hv ?k1 ?k2 ?k3 ?_ | h hx m memr | h hd m memr | h hv m mm lk | h k1 K | h k2 K | h k3 K
m:getMethod;~( getMethod ( Value.ref _ ) ( Str.ofString '__translated ) _ );r methF #407 C0 S ?hx ?hd ?hv ?k1 ?k2 ?k3 ?_ | h hx m memr | h hd m memr | h hv m mm lk | h k1 K | h k2 K | h k3 K
m:getMethod;~( getMethod ( Value.ref _ ) ( Str.ofString '__check ) _ );r methF #414 C0 S ?hx ?hd ?hv ?k1 ?k2 ?k3 ?_ | h hx m memr | h hd m memr | h hv m mm lk | h k1 K | h k2 K | h k3 K
m:getMethod;~( getMethod ( Value.ref _ ) ( Str.ofString 'read ) _ );r methF #576 C0 S ?hx ?hd ?hv ?k1 ?k2 ?k3 ?_ | h hx m memr | h hd m memr | h hv m mm lk | h k1 K | h k2 K | h k3 K
m:getMethod;~( getMethod ( Value.ref _ ) ( Str.ofString 'get_token ) _ );r methF #726 C0 S ?hx ?hd ?hv ?k1 ?k2 ?k3 ?_ | h hx m memr | h hd m memr | h hv m mm lk | h k1 K | h k2 K | h k3 K
m:getMethod;~( getMethod ( Value.ref _ ) ( Str.ofString 'read_token ) _ );r methF #733 C0 S ?hx ?hd ?hv ?k1 ?k2 ?k3 ?_ | h hx m memr | h hd m memr | h hv m mm lk | h k1 K | h k2 K | h k3 K
mnewu;~( setAttr ( Value.ref _ ) _ _ );r attrNewU C0 S ?hx ?hu ?hk ?ha ?hz ?_ | h hx m memr | h hu m updu | h ha e AF.of K | h hk L | h hz K | c | i 4 | d
updu;;i 1 | m updr
mnew;~( setAttr ( Value.ref _ ) _ _ );r attrNew C0 S ?hx ?hu ?hk ?ha ?hz ?_ | h hx m memr | h hu m updr | h ha e AF.of K | h hk L | h hz K | c | i 2 | d
m:setAttr;~( setAttr ( Value.ref _ ) _ _ );r attrSet C0 S ?hx ?hu ?hk ?ha ?hz ?_ | h hx m memr | h hu m updr | h ha e AF.of K | h hk L | h hz K | c | i 2 | d
m:getAttr;~( getAttr ( Value.ref _ ) _ _ );r attrGet C0 S ?hx ?hd ?hv ?ha ?hi ?_ | h hx m memr | h hd m memr | h hv m mm lk | h ha e AF.of K | h hi R | c | i 2
m:getAttr;~( getAttr ( Value.ref _ ) _ _ );r attrGetB C0 S ?hb ?hv ?ha ?hi ?_ | h hb S | h hv m mm lk | h ha e AF.of K | h hi R | c | i 2
m:exec:Stmt.AugAssign;~( exec ( Stmt.AugAssign ( Expr.Attribute _ _ _ ) _ _ _ ) _ );q wpAny_AugAssign_AttributeAny ?_
m:exec:Stmt.Assign;~( exec ( Stmt.Assign ( List.cons ( Expr.Attribute _ _ _ ) List.nil ) _ _ ) _ );q plainObj_wpAny_Assign_Attribute ?_
m:eval:Expr.Attribute;~( eval ( Expr.Attribute _ _ _ ) _ );q Attribute_any_ ?_
updr;;x Upd.head
updr;;p Upd.tail | m updr
memr;;x List.mem_cons_self
memr;;q List.mem_cons_of_mem _ ?_ | m memr
m:callWith;~( callWith _ ( Value.builtin _ ) _ ( backTo _ ( starEach List.nil _ ) ) List.nil );q PyProof.Rows.callWith_method0 ?_
m:call;~( call ( Value.type 'object ) _ );q callObject C0 ?_ | c | k 3 2
m:callWith;~( callWith _ ( Value.type _ ) List.nil ( backTo _ ( starEach List.nil _ ) ) List.nil );q PyProof.Rows.callWith_type0 ?_
m:compareOp;~( compareOp CmpOp.In ( Value.str _ _ ) ( Value.ref _ ) );r inT2 C0 ?hm ?_ | h hm m mem
m:newTuple;~( newTuple _ );q tL C0 ( Nat.le_of_ble_eq_true rfl ) ?_ | c | i 3
m:eval:Expr.Tuple;~( eval ( Expr.Tuple _ _ _ ) _ );q Tuple_ ?_
m:getMethod;~( getMethod ( Value.str _ _ ) ( Str.ofString 'replace ) _ );q GM.replace ?_
m:getMethod;~( getMethod ( Value.str _ _ ) ( Str.ofString 'translate ) _ );q gmTranslate ?_
m:call;~( call ( Value.builtin 'isinstance ) ( List.cons ( Value.str _ _ ) ( List.cons ( Value.type 'str ) List.nil ) ) );q IsiPair.str_str ?_
m:getMethod;~( getMethod ( Value.str _ _ ) ( Str.ofString 'join ) _ );q GM.join ?_
m:call;~( call ( Value.ref _ ) ( HAppend.hAppend List.nil ( List.cons _ List.nil ) ) );r callBm C0 %mem ?hu ?hs ?_ | h hu m upd | h hs m sz | c | i 2
mx;And ( Exists _ ) _;q mxBm C0 %mem ?_
m:callWith;~( callWith _ ( Value.ref _ ) List.nil ( backTo _ ( starEach ( List.cons _ _ ) _ ) ) List.nil );r callWithBm C0 ?hm ?_ | h hm m mem
m:getAttr;~( getAttr ( Value.ref _ ) ( Str.ofString 'append ) _ );r getAppend C0 ?hm ?_ | h hm m mem | c | i 3
m:exec:Stmt.Assign;~( exec ( Stmt.Assign ( List.cons ( Expr.Name _ _ ) List.nil ) ( Expr.Attribute ( Expr.Name _ _ ) _ _ ) _ ) _ );q wpAny_Assign_Name ( Attribute_name ?_ )
m:exec:Stmt.Assert;~( exec ( Stmt.Assert _ none _ ) _ );q wpAny_Assert_holds ?_
mx;ite ( Eq Bool.false Bool.true ) _ _;q mxF ?_
mx;ite ( Eq Bool.true Bool.true ) _ _;q mxT ?_
m:exec:Stmt.AugAssign;~( exec ( Stmt.AugAssign ( Expr.Subscript _ _ _ ) _ _ _ ) _ );q wpAny_AugAssign_SubscriptAny ?_
m:setItem;~( setItem ( Value.ref _ ) ( Value.int -1 _ ) _ );r setLast C0 ?hu ?hs ?_ | h hu m upd | h hs m sz | c | i 2
m:getItem;~( getItem ( Value.ref _ ) ( Value.int -1 _ ) );r getLast C0 ?hm ?hs ?_ | h hm m mem | h hs m sz
m:truthy;~( truthy Value.none );q truthy_none ?_
m:truthy;~( truthy ( Value.ref _ ) );r truL C0 ( At.listIn C0 ?hm ) ?hs ?_ | h hm m mem | h hs m sz | c | k 2 1
m:truthy;~( truthy ( Value.str _ _ ) );r truS C0 ?hs ?_ | h hs m sz | c | i 2
m:isTrue:Expr.Call;~( isTrue ( Expr.Call _ _ _ _ ) _ _ );q wpAny_isTrue_value ?_
m:isTrue:Expr.Constant;~( isTrue ( Expr.Constant _ _ _ ) _ _ );q wpAny_isTrue_value ?_
m:isTrue:Expr.Attribute;~( isTrue ( Expr.Attribute _ _ _ ) _ _ );q wpAny_isTrue_value ?_
m:isTrue:Expr.Name;~( isTrue ( Expr.Name _ _ ) _ _ );q wpAny_isTrue_value ?_
m:eval:Expr.Name;~( eval ( Expr.Name _ _ ) _ );r ldL C0 ?hv ?_ | h hv m mm lk
m:eval:Expr.Name;~( eval ( Expr.Name _ _ ) _ );r ldG C0 S ?hv ?_ | h hv m mm gn
m:eval:Expr.Name;~( eval ( Expr.Name _ _ ) _ );r ldB C0 S ?hv ?hb K ?_ | h hv m mm gb | h hb b
m:call;~( call ( Value.builtin 'str.find ) _ );q findS C0 ?_ | c | i 3
m:getMethod;~( getMethod ( Value.str _ _ ) ( Str.ofString 'find ) _ );q GM.find ?_
m:getMethod;~( getMethod ( Value.ref _ ) ( Str.ofString 'extend ) _ );r mExtL C0 ?hm ?_ | h hm m mem
m:callWith;~( callWith _ ( Value.type _ ) List.nil ( backTo _ ( starEach ( List.cons _ _ ) _ ) ) List.nil );q PyProof.Rows.callWith_type1 ?_
mx;And ( Frag.In _ _ ) _;q mxIn C0 S ?_
m:callWith;~( callWith _ ( Value.ref ( OfNat.ofNat _ ) ) _ ( backTo _ ( starEach ( List.cons _ _ ) _ ) ) List.nil );q callWith_K ( Gd.K S ) K ?_
m:eval:Expr.BoolOp;~( eval ( Expr.BoolOp _ ( List.cons _ List.nil ) _ ) _ );q BoolOp_one ?_
mbo;~( eval ( Expr.BoolOp BoolOp.Or ( List.cons _ ( List.cons _ _ ) ) _ ) _ );q BoolOp_or ?_
mbo;~( eval ( Expr.BoolOp BoolOp.And ( List.cons _ ( List.cons _ _ ) ) _ ) _ );q BoolOp_and ?_
m:unaryOp;~( unaryOp UnaryOp.USub ( Value.int _ _ ) );q negI C0 ?_ | c | i 3
m:subscriptTail;~( subscriptTail _ _ ( Value.ref _ ) ( Value.int -1 _ ) );r idxLast ( At.listIn C0 ?hm ) ?hs ?_ | h hm m mem | h hs m sz
m:subscriptTail;~( subscriptTail _ _ ( Value.str _ _ ) ( Value.int _ _ ) );r idxS C0 ?hc ?hs ?_ | h hc S | h hs m sz | c | i 3
m:call;~( call ( Value.builtin 'len ) _ );r lenL C0 ( At.listIn C0 ?hm ) ?hs ?_ | h hm m mem | h hs m sz | c | k 3 1
m:call;~( call ( Value.builtin 'len ) _ );r lenS C0 ?hs ?_ | h hs m sz | c | i 3
m:inplaceOp;~( inplaceOp Operator.Add ( Value.str _ _ ) ( Value.str _ _ ) );r iaddS C0 ?hs ?_ | h hs m sz | c | i 3
m:binaryOp;~( binaryOp Operator.Add ( Value.str _ _ ) ( Value.str _ _ ) );r addS C0 ?hs ?_ | h hs m sz | c | i 3
m:compareOp;~( compareOp CmpOp.NotIn ( Value.str _ _ ) ( Value.str _ _ ) );q notInS ?_
m:compareOp;~( compareOp CmpOp.In ( Value.str _ _ ) ( Value.str _ _ ) );q inS ?_
m:compareOp;~( compareOp CmpOp.NotEq ( Value.str _ _ ) ( Value.str _ _ ) );q neS ?_
m:compareOp;~( compareOp CmpOp.Eq ( Value.str _ _ ) ( Value.str _ _ ) );q eqS ?_
m:compareOp;~( compareOp CmpOp.Eq ( Value.int ( Nat.cast _ ) _ ) ( Value.int ( Nat.cast _ ) _ ) );w eqN ?_
m:compareOp;~( compareOp CmpOp.Gt ( Value.int ( Nat.cast _ ) _ ) ( Value.int ( Nat.cast _ ) _ ) );w gtN ?_
m:compareOp;~( compareOp CmpOp.GtE ( Value.int ( Nat.cast _ ) _ ) ( Value.int ( Nat.cast _ ) _ ) );w geN ?_
m:compareOp;~( compareOp CmpOp.Lt ( Value.int ( Nat.cast _ ) _ ) ( Value.int ( Nat.cast _ ) _ ) );w ltN ?_
m:inplaceOp;~( inplaceOp Operator.Add ( Value.int ( Nat.cast _ ) _ ) ( Value.int #1 _ ) );w iaddN C0 ?_ | c | i 3
m:binaryOp;~( binaryOp Operator.Add ( Value.int ( Nat.cast _ ) _ ) ( Value.int #1 _ ) );w addN C0 ?_ | c | i 3
m:call;~( call ( Value.builtin 'list.append ) _ );r appL C0 ?hu ?hs ?_ | h hu m upd | h hs m sz | c | i 2
m:getMethod;~( getMethod ( Value.ref _ ) ( Str.ofString 'append ) _ );r mAppL C0 ?hm ?_ | h hm m mem
m:callWith;~( callWith _ ( Value.builtin _ ) ( List.cons _ _ ) ( backTo _ ( starEach ( List.cons _ _ ) _ ) ) List.nil );q callWith_method1 ?_
upd;;e Upd.head
upd;;p Upd.tail | m upd
mem;;e List.Mem.head _
mem;;q List.Mem.tail _ ?_ | m mem
m:exec:Stmt.Expr;~( exec ( Stmt.Expr _ _ ) _ );q wpAny_Expr ?_
m:call;~( call ( Value.builtin 'abs ) _ );q absI C0 ?_ | c | i 3
m:inplaceOp;~( inplaceOp Operator.FloorDiv ( Value.int _ _ ) ( Value.int _ _ ) );q ifdivI C0 E E ?_ | c | i 3
m:binaryOp;~( binaryOp Operator.Mod ( Value.int _ _ ) ( Value.int _ _ ) );q modI C0 E ?_ | c | i 3
m:evalPart;~( evalPart ( some _ ) _ );q wpAny_evalPart_some ?_
m:evalPart;~( evalPart none _ );q wpAny_evalPart_none ?_
m:eval:Expr.Subscript;~( eval ( Expr.Subscript _ ( Expr.BinOp _ _ _ _ ) _ ) _ );q Subscript_ ?_
m:eval:Expr.Subscript;~( eval ( Expr.Subscript _ ( Expr.UnaryOp _ _ _ ) _ ) _ );q Subscript_ ?_
m:eval:Expr.Subscript;~( eval ( Expr.Subscript _ ( Expr.Constant _ _ _ ) _ ) _ );q Subscript_ ?_
m:eval:Expr.Subscript;~( eval ( Expr.Subscript _ ( Expr.Name _ _ ) _ ) _ );q Subscript_ ?_
m:assign;~( assign ( Expr.Name _ _ ) _ _ );q wpAny_assign_Name ?_
m:newList;~( newList _ );q nL C0 ( Nat.le_of_ble_eq_true rfl ) ?_ | c | k 3 2
m:eval:Expr.List;~( eval ( Expr.List _ _ ) _ );q List_ ?_
mm gb;;x gb_chr _
mm gb;;x gb_abs _
mm gb;;x gb_len _
mm gb;;x gb_range _
mm gb;;x gb_object _
mm gb;;x gb_isinstance _
mm gb;;x gb_str _
mm gb;;x gb_list _
mm gb;;x gb_ValueError _
mm gb;;x gb_type _
mm gb;;x gb_int _
mm gb;;x gb_bool _
mm gb;;x gb_StopIteration _
mm gn;;x gn_law_figures _
mm gn;;x gn_law_sign _
mm gn;;x gn_law_bare _
mm gn;;x gn_law_strands _
mm gn;;x gn_law_marked _
mm gn;;x gn_law_words _
mm gn;;x gntranslate _
mm gn;;x gn_translate _
mm gn;;x gn_join_translated_parts _
mm gn;;x gnescape _
mm gn;;x gn_special_chars_map _
mm gn;;x gn_twin_re_1 _
mm gn;;x gnsplit _
mm gn;;x gnshlex _
mm gn;;x gnStringIO _
mm gn;;x gnBytesIO _
mm gn;;x gn_deque _
mm gn;;x gn_index _
m:spliced;~( spliced ( backTo _ ( starEach ( List.cons _ _ ) _ ) ) );q spliced_more ?_
m:spliced;~( spliced ( backTo _ ( starEach List.nil _ ) ) );q args_nil ?_
m:callWith;~( callWith _ ( Value.builtin _ ) List.nil ( backTo _ ( starEach ( List.cons _ _ ) _ ) ) List.nil );q PyProof.Rows.callWith_builtin1 ?_
m:compareOp;~( compareOp CmpOp.Eq ( Value.int _ _ ) ( Value.int _ _ ) );q eqI ?_
m:compareOp;~( compareOp CmpOp.Gt ( Value.int _ _ ) ( Value.int _ _ ) );q gtI ?_
m:compareOp;~( compareOp CmpOp.GtE ( Value.int _ _ ) ( Value.int _ _ ) );q geI ?_
m:compareOp;~( compareOp CmpOp.Lt ( Value.int _ _ ) ( Value.int _ _ ) );q ltI ?_
m:inplaceOp;~( inplaceOp Operator.Add ( Value.int _ _ ) ( Value.int _ _ ) );q iaddI C0 ?_ | c | i 3
m:binaryOp;~( binaryOp Operator.Sub ( Value.int _ _ ) ( Value.int _ _ ) );q subI C0 ?_ | c | i 3
m:binaryOp;~( binaryOp Operator.Add ( Value.int _ _ ) ( Value.int _ _ ) );q addI C0 ?_ | c | i 3
m:storeName;~( storeName _ _ _ );q stU C0 ?_ | c | i 4 | d
m:eval:Expr.Constant;~( eval ( Expr.Constant Const.none _ _ ) _ );q wpAny_Constant_none ?_
m:eval:Expr.Constant;~( eval ( Expr.Constant ( Const.bool _ ) _ _ ) _ );q wpAny_Constant_bool ?_
m:eval:Expr.Constant;~( eval ( Expr.Constant ( Const.str _ ) _ _ ) _ );q cL %lit C0 ?_ | c | i 3
m:eval:Expr.Constant;~( eval ( Expr.Constant ( Const.int _ ) _ _ ) _ );q cI C0 ?_ | c | i 3
m:loadName;~( loadName _ _ );r ldN C0 ?hv ?_ | h hv m mm lk
mm lk;;S
mm lk;;x Up.same S
mm lk;;x upd_same _ _ _
mm lk;;q Up.other S ?_ L | m mm lk
mm lk;;q upd_other ?_ L | m mm lk
mm lk;;e Up.same A
mm lk;;R
m:truthy;~( truthy ( Value.bool _ ) );q wpAny_truthy_bool ?_
m:allTrue;~( allTrue BoolOp.Or ( List.cons _ _ ) _ );q wpAny_allTrue_Or_cons ?_
m:allTrue;~( allTrue BoolOp.And ( List.cons _ _ ) _ );q wpAny_allTrue_And_cons ?_
m:allTrue;~( allTrue BoolOp.Or List.nil _ );q wpAny_allTrue_Or_nil ?_
m:allTrue;~( allTrue BoolOp.And List.nil _ );q wpAny_allTrue_And_nil ?_
m:isTrue:Expr.BoolOp;~( isTrue ( Expr.BoolOp _ _ _ ) _ _ );q wpAny_isTrue_BoolOp ?_
m:isTrue:Expr.UnaryOp;~( isTrue ( Expr.UnaryOp UnaryOp.Not _ _ ) _ _ );q wpAny_isTrue_Not ?_
m:isTrue:Expr.Compare;~( isTrue ( Expr.Compare _ ( List.cons _ List.nil ) ( List.cons _ List.nil ) _ ) _ _ );q wpAny_isTrue_Compare1 ?_
m:eval:Expr.Call;~( eval ( Expr.Call ( Expr.Attribute _ _ _ ) _ List.nil _ ) _ );q MethodCall_ ?_
m:eval:Expr.Call;~( eval ( Expr.Call _ _ List.nil _ ) _ );q Call_ ?_
mif;~( eval ( Expr.IfExp _ _ _ _ ) _ );q wpAny_IfExp ?_
m:eval:Expr.UnaryOp;~( eval ( Expr.UnaryOp _ _ _ ) _ );q wpAny_UnaryOp ?_
m:eval:Expr.Compare;~( eval ( Expr.Compare _ ( List.cons _ List.nil ) ( List.cons _ List.nil ) _ ) _ );q wpAny_Compare1 ?_
m:eval:Expr.BinOp;~( eval ( Expr.BinOp _ _ _ _ ) _ );q wpAny_BinOp ?_
m:exec:Stmt.Continue;~( exec ( Stmt.Continue _ ) _ );q wpAny_Continue ?_
m:exec:Stmt.Break;~( exec ( Stmt.Break _ ) _ );q wpAny_Break ?_
m:exec:Stmt.Pass;~( exec ( Stmt.Pass _ ) _ );q wpAny_Pass ?_
m:exec:Stmt.Return;~( exec ( Stmt.Return ( some _ ) _ ) _ );q wpAny_Return_some ?_
m:exec:Stmt.If;~( exec ( Stmt.If _ _ _ _ ) _ );q wpAny_If ?_
m:exec:Stmt.AugAssign;~( exec ( Stmt.AugAssign ( Expr.Name _ _ ) _ _ _ ) _ );q wpAny_AugAssign_Name ?_
m:exec:Stmt.Assign;~( exec ( Stmt.Assign ( List.cons ( Expr.Name _ _ ) List.nil ) _ _ ) _ );q wpAny_Assign_Name ?_
xs;;q hideQE ?_ | i 4 | q wpAny_execs_cons ?_
hw;;q hideTest ?_ | i 6
ht;;q hideTurn ?_ | i 4
hq;;q hideQ ?_ | i 2
hx;;q hideQE ?_ | i 4
hr;;q hideCode ?_ | i 2
om;;A
om;;e Nat.le_trans A E
om;;e Nat.le_trans ( Nat.succ_le_succ A ) E
om;;e Nat.le_trans ( Nat.add_le_add_right A _ ) E
om;;e Nat.sub_lt_sub_left A ( Nat.lt_succ_self _ )
om;;e Nat.le_of_lt A
om;;l
m:execs;~( execs ( List.cons ( Stmt.If _ _ _ _ ) _ ) _ );q hideS ?_ | i 2
m:execs;~( execs ( List.cons ( Stmt.Assign _ _ _ ) _ ) _ );q hideS ?_ | i 2
m:execs;~( execs ( List.cons ( Stmt.AugAssign _ _ _ _ ) _ ) _ );q hideS ?_ | i 2
m:execs;~( execs ( List.cons ( Stmt.Expr _ _ ) _ ) _ );q hideS ?_ | i 2
m:execs;~( execs ( List.cons _ _ ) _ );q wpAny_execs_cons ?_
m:execs;~( execs List.nil _ );q wpAny_execs_nil ?_
lit;;x lit1
lit;;x lit2
lit;;x lit3
lit;;x lit4
lit;;x lit5
lit;;x lit6
lit;;x lit7
lit;;x lit8
lit;;x lit9
lit;;x lit10
lit;;x lit11
lit;;x lit12
lit;;x lit13
lit;;x lit14
lit;;x lit15
lit;;x lit16
lit;;x lit17
lit;;x lit18
lit;;x lit19
lit;;x lit20
lit;;x lit21
lit;;x lit22
lit;;x lit23
lit;;x lit24
lit;;x lit25
lit;;x lit26
lit;;x lit27
lit;;x lit28
lit;;x lit29
lit;;x lit30
lit;;x lit31
lit;;x lit32
lit;;x lit33
lit;;x lit34
lit;;x lit35
lit;;x lit36
lit;;x lit37
lit;;x lit38
lit;;x lit39
lit;;x lit40
lit;;x lit41
lit;;x lit42
lit;;x lit43
lit;;x lit44
lit;;x lit45
lit;;x lit46
lit;;x lit47
lit;;x lit48
lit;;x lit49
lit;;x lit50
lit;;x lit51
lit;;x lit52
lit;;x lit53
lit;;x lit54
lit;;x lit55
lit;;x lit56
lit;;x lit57
lit;;x lit58
"
def wkGo (s : String) : MacroM Syntax := do return (← wkFirst (← ((wkTbl.splitOn ("\n" ++ s ++ ";")).tail.map fun x => ";" ++ (x.splitOn "\n").headD "").mapM wkAlt)).raw
end
end
-- MBase
section
noncomputable abbrev PG : Program := PySem.Challenge.pw_ko0066_01
noncomputable abbrev Md (w : World) : Model := model PG w

noncomputable def dropA (h : Heap) : List Addr → Heap
  | [] => h
  | a :: l => (dropA h l).update a fun _ => ⟨.none, none, .freed, #[]⟩
theorem get?_gone (h : Heap) (a : Addr) : (h.update a fun _ => ⟨.none, none, .freed, #[]⟩).get? a = none := by
  cases e : (h.update a fun _ => ⟨.none, none, .freed, #[]⟩).get? a with
  | none => rfl
  | some o =>
    exfalso
    obtain ⟨e1, e2⟩ := Heap.get?_some_iff.mp e
    cases h
    simp only [Heap.update, Array.getElem?_modify, if_true] at e1
    rw [Option.map_eq_some_iff] at e1
    obtain ⟨x, _, rfl⟩ := e1
    simp [Obj.isFreed] at e2
theorem dropA_get (h : Heap) (l : List Addr) (b : Addr) : (dropA h l).get? b = if b ∈ l then none else h.get? b := by
  induction l with
  | nil => simp [dropA]
  | cons a l ih =>
    unfold dropA
    by_cases e : b = a
    · subst e; rw [get?_gone]; simp
    · rw [Heap.get?_update_other _ _ (Ne.symm e), ih]; simp [e]

noncomputable abbrev Keeps (g h : Heap) : Prop := ∀ b o, g.get? b = some o → h.get? b = some o
noncomputable abbrev KeepsBut (l : List Addr) (g h : Heap) : Prop := ∀ b o, b ∉ l → g.get? b = some o → h.get? b = some o

structure Gd (w : World) (h : Heap) : Prop where
  K : (Kf PG w.params).In h
  lim : h.NoLimit
  b : ∃ mb, h.Ns builtinsNs mb ∧ ∀ x : Str, x ≠ "__name__" → mb x = bootBuiltins x
theorem Gd.keeps {w : World} {g h : Heap} (G : Gd w g) (k : Keeps g h) : Gd w h :=
  ⟨G.K.keeps k, G.lim.keeps k, let ⟨mb, a, b⟩ := G.b; ⟨mb, a.keeps k, b⟩⟩

structure Rm (k : Nat) (A : Around) : Prop where
  handled : A.handled = none
  depth : A.depth ≤ 301 + k
  units : A.units ≤ 4 + 10 * k
  frames : ∃ l, A.frames = some l
theorem Rm.deeper {k : Nat} {A : Around} (R : Rm k A) (env : Env) : Rm (k + 1) (A.deeper env) :=
  ⟨R.handled, by have := R.depth; show A.depth + 1 ≤ _; lia, by have := R.units; show A.units + 3 ≤ _; lia, by obtain ⟨l, e⟩ := R.frames; exact ⟨env :: l, by show A.frames.map _ = _; rw [e]; rfl⟩⟩
theorem Rm.in1 {k : Nat} {A : Around} (R : Rm k A) : Rm (k + 1) A.in1 :=
  ⟨R.handled, by have := R.depth; show A.depth ≤ _; lia, by have := R.units; show A.units + 1 ≤ _; lia, R.frames⟩
theorem Rm.room {k : Nat} {A : Around} (R : Rm k A) (h : k ≤ 100) : A.depth < recursionLimit := by
  have := R.depth; show A.depth < 1000; lia
theorem Rm.cRoom {k : Nat} {A : Around} (R : Rm k A) (h : k ≤ 100) : A.units < cLine := by
  have := R.units; show A.units < 9900; lia

noncomputable abbrev OP := Obj → Prop
noncomputable abbrev Own := List (Addr × OP)
structure At (O : OsState) (g : Heap) (L : Addr) (m : Str → Option Value) (own : Own) (s : Shared) : Prop where
  keep : Keeps g s.heap
  ow : ∀ p ∈ own, ∃ o, s.heap.get? p.1 = some o ∧ p.2 o
  ns : s.heap.Ns L m
  gL : g.get? L = none
  gown : ∀ p ∈ own, g.get? p.1 = none ∧ p.1 ≠ L
  nd : (own.map Prod.fst).Nodup
  os : s.os = O
  gens : s.gens = #[]

inductive Upd (a : Addr) (o o' : OP) : Own → Own → Prop
  | head {l : Own} : Upd a o o' ((a, o) :: l) ((a, o') :: l)
  | tail {p : Addr × OP} {l l' : Own} (h : Upd a o o' l l') : Upd a o o' (p :: l) (p :: l')
theorem Upd.mem {a : Addr} {o o' : OP} {l l' : Own} (u : Upd a o o' l l') : (a, o) ∈ l := by
  induction u with
  | head => exact .head _
  | tail _ ih => exact .tail _ ih
theorem Upd.map {a : Addr} {o o' : OP} {l l' : Own} (u : Upd a o o' l l') : l'.map Prod.fst = l.map Prod.fst := by
  induction u with
  | head => rfl
  | tail _ ih => simp only [List.map_cons, ih]
theorem Upd.elim {a : Addr} {o o' : OP} {l l' : Own} (u : Upd a o o' l l') (nd : (l.map Prod.fst).Nodup) : ∀ p ∈ l', p = (a, o') ∨ (p ∈ l ∧ p.1 ≠ a) := by
  induction u with
  | head =>
    intro p hp
    simp only [List.map_cons, List.nodup_cons] at nd
    rcases List.mem_cons.mp hp with rfl | hp
    · exact .inl rfl
    · exact .inr ⟨.tail _ hp, fun e => nd.1 (List.mem_map.mpr ⟨p, hp, e⟩)⟩
  | @tail q l₁ l₂ h ih =>
    intro p hp
    simp only [List.map_cons, List.nodup_cons] at nd
    rcases List.mem_cons.mp hp with rfl | hp
    · exact .inr ⟨.head _, fun e => nd.1 (List.mem_map.mpr ⟨_, h.mem, e.symm⟩)⟩
    · rcases ih nd.2 p hp with e | ⟨a, b⟩
      · exact .inl e
      · exact .inr ⟨.tail _ a, b⟩

section
variable {O : OsState} {g : Heap} {L : Addr} {m : Str → Option Value} {own own' : Own} {s : Shared}
theorem At.get (C : At O g L m own s) {a : Addr} {P : OP} (h : (a, P) ∈ own) : ∃ o, s.heap.get? a = some o ∧ P o := C.ow _ h
theorem At.toks (C : At O g L m own s) (k : Nat) : At O g L m own { s with toks := k } := ⟨C.keep, C.ow, C.ns, C.gL, C.gown, C.nd, C.os, C.gens⟩
theorem At.gd {w : World} (C : At O g L m own s) (G : Gd w g) : Gd w s.heap := G.keeps C.keep
theorem At.upd (C : At O g L m own s) {a : Addr} {P P' : OP} (u : Upd a P P' own own') {h' : Heap} (hs : Heap.SameBut a s.heap h') (ho : ∃ o, h'.get? a = some o ∧ P' o) (k : Nat) : At O g L m own' { s with heap := h', toks := k } := by
  have ga := C.gown _ u.mem
  refine ⟨fun b o e => ?_, fun p hp => ?_, C.ns.sameBut hs (Ne.symm ga.2), C.gL, fun p hp => ?_, by rw [u.map]; exact C.nd, C.os, C.gens⟩
  · rw [hs.2 b fun q => by rw [q, ga.1] at e; cases e]; exact C.keep b o e
  · rcases u.elim C.nd p hp with rfl | ⟨x, y⟩
    · exact ho
    · obtain ⟨o', e', q⟩ := C.ow p x; exact ⟨o', (hs.2 _ y).trans e', q⟩
  · rcases u.elim C.nd p hp with rfl | ⟨x, y⟩
    · exact ga
    · exact C.gown p x
theorem At.store (C : At O g L m own s) {m' : Str → Option Value} {h' : Heap} (hn : h'.Ns L m') (hs : Heap.SameBut L s.heap h') (k : Nat) : At O g L m' own { s with heap := h', toks := k } :=
  ⟨fun b o e => by rw [hs.2 b fun q => by rw [q, C.gL] at e; cases e]; exact C.keep b o e, fun p hp => let ⟨o', e', q⟩ := C.ow p hp; ⟨o', (hs.2 _ (C.gown p hp).2).trans e', q⟩, hn, C.gL, C.gown, C.nd, C.os, C.gens⟩
theorem At.fresh (C : At O g L m own s) : g.get? s.heap.objs.size = none := by
  cases e : g.get? s.heap.objs.size with
  | none => rfl
  | some o => exact absurd (Heap.lt_size (C.keep _ _ e)) (Nat.lt_irrefl _)
theorem At.push (C : At O g L m own s) (o : Obj) (hf : o.isFreed = false) {P : OP} (hP : P o) : At O g L m ((s.heap.objs.size, P) :: own) { s with heap := s.heap.push o } := by
  refine ⟨fun b o e => Heap.get?_push_of_some _ (C.keep b o e), fun p hp => ?_, C.ns.push o, C.gL, fun p hp => ?_, ?_, C.os, C.gens⟩
  · rcases List.mem_cons.mp hp with rfl | hp
    · exact ⟨_, Heap.get?_push_size _ hf, hP⟩
    · obtain ⟨o', e, q⟩ := C.ow p hp; exact ⟨o', Heap.get?_push_of_some _ e, q⟩
  · rcases List.mem_cons.mp hp with rfl | hp
    · exact ⟨C.fresh, Nat.ne_of_gt C.ns.lt⟩
    · exact C.gown p hp
  · refine List.nodup_cons.mpr ⟨fun h => ?_, C.nd⟩
    obtain ⟨p, hp, e⟩ := List.mem_map.mp h
    have := Heap.lt_size (C.ow p hp).choose_spec.1
    rw [e] at this
    exact Nat.lt_irrefl _ this
theorem At.drop (C : At O g L m own s) (h : own'.Sublist own) : At O g L m own' s :=
  ⟨C.keep, fun p hp => C.ow p (h.subset hp), C.ns, C.gL, fun p hp => C.gown p (h.subset hp), C.nd.sublist (h.map _), C.os, C.gens⟩
theorem At.grow (C : At O g L m own s) {s' : Shared} (k : Keeps s.heap s'.heap) (ho : s'.os = s.os) (hg : s'.gens = s.gens) : At O g L m own s' :=
  ⟨fun b o e => k b o (C.keep b o e), fun p hp => let ⟨o', e', q⟩ := C.ow p hp; ⟨o', k _ _ e', q⟩, C.ns.keeps k, C.gL, C.gown, C.nd, ho.trans C.os, hg.trans C.gens⟩
theorem At.growBut (C : At O g L m own s) {a : Addr} {P P' : OP} (u : Upd a P P' own own') {s' : Shared} (k : KeepsBut [a] s.heap s'.heap) (h : ∃ o, s'.heap.get? a = some o ∧ P' o) (ho : s'.os = s.os) (hg : s'.gens = s.gens) : At O g L m own' s' := by
  have ga := C.gown _ u.mem
  refine ⟨fun b o e => k b o (fun q => ?_) (C.keep b o e), fun p hp => ?_, ?_, C.gL, fun p hp => ?_, by rw [u.map]; exact C.nd, ho.trans C.os, hg.trans C.gens⟩
  · rw [List.mem_singleton.mp q, ga.1] at e; cases e
  · rcases u.elim C.nd p hp with rfl | ⟨x, y⟩
    · exact h
    · obtain ⟨o', e', q⟩ := C.ow p x; exact ⟨o', k _ _ (fun q => y (List.mem_singleton.mp q)) e', q⟩
  · obtain ⟨o, es, ep, e, r⟩ := C.ns
    exact ⟨o, es, ep, k _ _ (fun q => ga.2 (List.mem_singleton.mp q).symm) e, r⟩
  · rcases u.elim C.nd p hp with rfl | ⟨x, y⟩
    · exact ga
    · exact C.gown p x
noncomputable def base (s : Shared) (L : Addr) (own : Own) : Heap := dropA s.heap (L :: own.map Prod.fst)
theorem At.rebase (C : At O g L m own s) (h : own'.Sublist own) : At O (base s L own') L m own' s ∧ Keeps g (base s L own') ∧ ∀ b o, s.heap.get? b = some o → b ≠ L → b ∉ own'.map Prod.fst → (base s L own').get? b = some o := by
  have C' := C.drop h
  have key : ∀ b, (base s L own').get? b = if b ∈ L :: own'.map Prod.fst then none else s.heap.get? b := dropA_get _ _
  refine ⟨⟨fun b o e => ?_, C'.ow, C'.ns, by rw [key]; simp, fun p hp => ⟨by rw [key, if_pos]; exact .tail _ (List.mem_map.mpr ⟨p, hp, rfl⟩), (C'.gown p hp).2⟩, C'.nd, C'.os, C'.gens⟩, fun b o e => ?_, fun b o e h1 h2 => ?_⟩
  · rw [key] at e; split at e
    · cases e
    · exact e
  · rw [key, if_neg]
    · exact C.keep b o e
    · intro q
      rcases List.mem_cons.mp q with rfl | q
      · rw [C.gL] at e; cases e
      · obtain ⟨p, hp, rfl⟩ := List.mem_map.mp q
        rw [(C'.gown p hp).1] at e; cases e
  · rw [key, if_neg]
    · exact e
    · intro q
      rcases List.mem_cons.mp q with rfl | q
      · exact h1 rfl
      · exact h2 q
end

noncomputable def upd (m : Str → Option Value) (x : Str) (v : Value) : Str → Option Value := fun y => if y = x then some v else m y
theorem upd_same (m : Str → Option Value) (x : Str) (v : Value) : upd m x v x = some v := if_pos rfl
theorem upd_other {m : Str → Option Value} {x y : Str} {v : Value} {r : Option Value} (h : m y = r) (hn : (y == x) = false) : upd m x v y = r := by
  unfold upd; rw [if_neg (by simpa using hn)]; exact h

section
variable {w : World} {A : Around} {E : Value → Shared → Prop} {O : OsState} {g : Heap} {L f : Addr} {m : Str → Option Value} {own own' : Own} {s : Shared} {qual : Str} {sc : Scope} {cd : Value}
theorem ldL {M : Model} {env : Env} {x : Str} {pos : Pos} {v : Value} {Q : Value → Shared → Prop} (C : At O g env.locals m own s) (hv : m x = some v) (h : Q v s) (hk : env.scope.kind = .function := by rfl)
    (hl : env.kindOf x = some .local := by rfl) (hd : (x == ("__debug__" : Str)) = false := by kernel_rfl) : wpAny M A (eval (.Name x pos) env) Q E s :=
  wpAny_Name (wpAny_loadName_local hk hl C.ns hv h) hd
theorem ldN {M : Model} {env : Env} {x : Str} {v : Value} {Q : Value → Shared → Prop} (C : At O g env.locals m own s) (hv : m x = some v) (h : Q v s) (hk : env.scope.kind = .function := by rfl)
    (hl : env.kindOf x = some .local := by rfl) : wpAny M A (loadName env x) Q E s := wpAny_loadName_local hk hl C.ns hv h
theorem stL {M : Model} {env : Env} {x : Str} {v : Value} {Q : Unit → Shared → Prop} (C : At O g env.locals m own s) (h : ∀ s', At O g env.locals (upd m x v) own s' → Q () s') (hk : env.scope.kind = .function := by rfl)
    (hl : env.kindOf x = some .local := by rfl) : wpAny M A (storeName env x v) Q E s :=
  wpAny_storeName_local hl C.ns (fun h' hn hs => h _ (C.store hn hs _)) (by rw [hk]; rfl)
end
theorem br {p : Prop} [Decidable p] {a b : Prop} (h1 : p → a) (h2 : ¬ p → b) : if decide p = true then a else b := by
  by_cases h : p
  · rw [if_pos (decide_eq_true h)]; exact h1 h
  · rw [if_neg (by simpa using h)]; exact h2 h
theorem brB {c : Bool} {a b : Prop} (h1 : c = true → a) (h2 : c = false → b) : if c = true then a else b := by
  cases c with
  | true => rw [if_pos rfl]; exact h1 rfl
  | false => rw [if_neg Bool.false_ne_true]; exact h2 rfl
structure Hid {α : Type} (Q0 Q' : α → Shared → Prop) : Prop where
  h : ∀ v s, Q0 v s → Q' v s
theorem Hid.out {α : Type} {Q0 Q' : α → Shared → Prop} {v : α} {s : Shared} (x : Hid Q0 Q') (h : Q0 v s) : Q' v s := x.h v s h
section
variable {M : Model} {A : Around} {s : Shared}
theorem hideQE {α : Type} {e : Sem α} {Q : α → Shared → Prop} {E : Value → Shared → Prop} (h : ∀ E', Hid E E' → ∀ Q', Hid Q Q' → wpAny M A e Q' E' s) : wpAny M A e Q E s := h E ⟨fun _ _ x => x⟩ Q ⟨fun _ _ x => x⟩
theorem hideQ {α : Type} {e : Sem α} {Q : α → Shared → Prop} {E : Value → Shared → Prop} (h : ∀ Q', Hid Q Q' → wpAny M A e Q' E s) : wpAny M A e Q E s := h Q ⟨fun _ _ x => x⟩
theorem hideTurn {a b : Sem Unit} {c : Sem Flow} {Q : Flow → Shared → Prop} {E : Value → Shared → Prop} (h : ∀ E', Hid E E' → ∀ Q', Hid Q Q' → wpAny M A a (fun _ s0 => wpAny M A b (fun _ s1 => wpAny M A c Q' E' s1) E' s0) E' s) :
    wpAny M A a (fun _ s0 => wpAny M A b (fun _ s1 => wpAny M A c Q E s1) E s0) E s := h E ⟨fun _ _ x => x⟩ Q ⟨fun _ _ x => x⟩
theorem hideTest {t : Sem Bool} {c : Sem Flow} {Q : Flow → Shared → Prop} {E : Value → Shared → Prop} {K : Shared → Prop}
    (h : ∀ E', Hid E E' → ∀ K', Hid (fun (_ : Unit) => K) K' → ∀ Q', Hid Q Q' → wpAny M A t (fun b s2 => if b = true then wpAny M A c Q' E' s2 else K' () s2) E' s) :
    wpAny M A t (fun b s2 => if b = true then wpAny M A c Q E s2 else K s2) E s := h E ⟨fun _ _ x => x⟩ (fun _ => K) ⟨fun _ _ x => x⟩ Q ⟨fun _ _ x => x⟩
noncomputable abbrev contQ (M : Model) (A : Around) (rest : List Stmt) (env : Env) (Q : Flow → Shared → Prop) (E : Value → Shared → Prop) : Flow → Shared → Prop := fun f s' => match f with | .next => wpAny M A (execs rest env) Q E s' | f => Q f s'
theorem hideS {st : Stmt} {rest : List Stmt} {env : Env} {Q : Flow → Shared → Prop} {E : Value → Shared → Prop}
    (h : ∀ Q', Hid (contQ M A rest env Q E) Q' → wpAny M A (exec st env) Q' E s) : wpAny M A (execs (st :: rest) env) Q E s :=
  wpAny_execs_cons (h _ ⟨fun _ _ x => x⟩)
theorem hideCode {c : Code} {R : Result → Shared → Prop} (h : ∀ R', Hid R R' → codeAny M A c R' s) : codeAny M A c R s := h R ⟨fun _ _ x => x⟩
end
structure Up (m : Str → Option Value) (x : Str) (v : Value) (m' : Str → Option Value) : Prop where
  e : m' = upd m x v
theorem Up.same {m m' : Str → Option Value} {x : Str} {v : Value} (u : Up m x v m') : m' x = some v := by rw [u.e]; exact upd_same m x v
theorem Up.other {m m' : Str → Option Value} {x y : Str} {v : Value} {r : Option Value} (u : Up m x v m') (h : m y = r) (hn : (y == x) = false) : m' y = r := by rw [u.e]; exact upd_other h hn
theorem Up.ne {m m' : Str → Option Value} {x y : Str} {v : Value} (u : Up m x v m') (h : y ≠ x) : m' y = m y := by rw [u.e]; exact if_neg h
theorem stU {M : Model} {A : Around} {E : Value → Shared → Prop} {O : OsState} {g : Heap} {m : Str → Option Value} {own : Own} {s : Shared} {env : Env} {x : Str} {v : Value} {Q : Unit → Shared → Prop} (C : At O g env.locals m own s)
    (h : ∀ m', Up m x v m' → ∀ s', At O g env.locals m' own s' → Q () s') (hk : env.scope.kind = .function := by rfl) (hl : env.kindOf x = some .local := by rfl) : wpAny M A (storeName env x v) Q E s :=
  stL C (h _ ⟨rfl⟩) hk hl
theorem mxT {i : Decidable (true = true)} {p q : Prop} (h : p) : @ite Prop (true = true) i p q := (if_pos rfl).mpr h
theorem mxF {i : Decidable (false = true)} {p q : Prop} (h : q) : @ite Prop (false = true) i p q := (if_neg Bool.false_ne_true).mpr h
theorem mxNT {i : Decidable ((!true) = true)} {p q : Prop} (h : q) : @ite Prop ((!true) = true) i p q := (if_neg Bool.false_ne_true).mpr h
theorem mxNF {i : Decidable ((!false) = true)} {p q : Prop} (h : p) : @ite Prop ((!false) = true) i p q := (if_pos rfl).mpr h
end
-- MHead1
section
noncomputable def impQ := @PySem.W.Fast.tw10274390034422433532
noncomputable def fenceQ := @PySem.W.Fast.tw14289696077712309145
noncomputable def startQ := @PySem.W.Fast.tw1435165496053646825
noncomputable def topGoQ := @PySem.W.Fast.tw15667345088766844465
noncomputable def segRunQ := @PySem.W.Fast.tw14374325043358763698
noncomputable def segTQ := @PySem.W.Fast.tw10110043849684766642
noncomputable def tabQ := PySem.W.Fast.tw14364793385576792824
noncomputable def denQ := @PySem.W.Fast.tw11892475500146522536
noncomputable def execsQ := @PySem.W.Fast.tw12563942051412417395
noncomputable def bstartQ := @PySem.W.Fast.tw1066825118222455980
noncomputable abbrev P0 : Pos := { line := 0, col := 0, endLine := 0, endCol := 0 }
noncomputable abbrev P4 : Pos := { line := 12, col := 0, endLine := 12, endCol := 8 }
noncomputable abbrev P5 : Pos := { line := 13, col := 0, endLine := 13, endCol := 18 }
noncomputable abbrev PL : Pos := { line := 906, col := 0, endLine := 923, endCol := 15 }
noncomputable abbrev annT : Option Value := some (.ref 6)
noncomputable def bodyT : List Stmt := behindTheImports PG
noncomputable def envT : Env := { scope := PG.main.scope, locals := mainNs, globals := mainNs, cells := [], code := .ref 36, frame := some 37 }
noncomputable def cT : Code := .body bodyT envT
noncomputable def B0 : List Frame := [topFrame P0]
noncomputable def nilS : Shared := ⟨⟨#[], default⟩, #[], boot_drawn, 0, default⟩
noncomputable def open0 (w : World) : Option Shared := (impQ tabQ (opening PG) w 1200 (startQ (opening PG)).1 (startQ (opening PG)).2).bind (fenceQ PG)
noncomputable def S0 (w : World) : Shared := (open0 w).getD nilS
noncomputable def Sa (w : World) : Shared := ((topGoQ tabQ PG w 34 annT 12 (S0 w) (topStub PG)).map (·.1)).getD nilS
noncomputable def thB : Thread := ⟨(bstartQ bodyT envT).wrap (fun _ => doneF .next) deadEnd id id, cT, P0, B0⟩
noncomputable def Sb (w : World) : Shared := ((segRunQ tabQ PG w 34 annT 1 1 (Sa w) thB).map (·.2.1)).getD nilS
noncomputable def treeOf (l : List Obj) : BT × Nat := l.foldl (fun x o => (x.1.ins x.2 o, x.2 + 1)) (.nil, 0)
noncomputable def toT (s : Shared) : SharedT := ⟨(treeOf s.heap.objs.toList).1, s.heap.objs.size, s.heap.life, s.gens, s.drawn, s.toks, s.os⟩
noncomputable def thP (l : List Stmt) (p : Pos) : Thread := ⟨(execsQ l envT).wrap doneF deadEnd id id, cT, p, B0⟩
noncomputable def nilT : SharedT := ⟨.nil, 0, default, #[], boot_drawn, 0, default⟩
noncomputable def T0 (w : World) : SharedT := toT (Sb w)
theorem hdA (w : World) : (open0 w, ((S0 w).heap.isNs mainGlobals && (S0 w).gens.size == 0, (S0 w).heap.objs.size, (S0 w).heap.nsMap mainGlobals "__annotations__"),
    topGoQ tabQ PG w 34 annT 12 (S0 w) (topStub PG), segRunQ tabQ PG w 34 annT 1 1 (Sa w) thB, (T0 w).abs) =
    (some (S0 w), (true, 34, annT), some (Sa w, ⟨denQ tabQ cT, cT, P0, B0⟩), some (.next, Sb w, cT, P0), Sb w) := by kernel_rfl
noncomputable def run4 (w : World) : Option (Flow × SharedT × Code × Pos) := segTQ tabQ PG w 34 annT 1 400 (T0 w) (thP (bodyT.take 5) P0)
noncomputable def T4 (w : World) : SharedT := ((run4 w).map (·.2.1)).getD nilT
noncomputable def fw (w : World) (a b : Bool) : World := (w.withFollow "comprehension-iter-twice" a).withFollow "special-get-raises" b
noncomputable def run5 (w : World) (a b : Bool) : Option (Flow × SharedT × Code × Pos) := segTQ tabQ PG (fw w a b) 34 annT 1 1400 (T4 w) (thP ((bodyT.drop 5).take 1) P4)
noncomputable def T5 (w : World) : SharedT := ((run5 w false false).map (·.2.1)).getD nilT
theorem hdB (w : World) : (run4 w, run5 w false false, run5 w false true, run5 w true false, run5 w true true) =
    (some (.next, T4 w, cT, P4), some (.next, T5 w, cT, P5), some (.next, T5 w, cT, P5), some (.next, T5 w, cT, P5), some (.next, T5 w, cT, P5)) := by kernel_rfl
end
-- MHead2
section
noncomputable def seenQ := @PySem.W.Fast.tw4187177175401517315
noncomputable def run6 (w : World) : Option (Flow × SharedT × Code × Pos) := segTQ tabQ PG w 34 annT 1 6000 (T5 w) (thP (bodyT.drop 6) P5)
noncomputable def qv : Program := { PG with main := { PG.main with body := [stAt PG 38] } }
noncomputable def looseL : List Str := PG.boundNames.filter (fun n => n != ("law" : Str))
noncomputable def modsL : List Str := importedModules PG.main.body
noncomputable def asK : List Addr := [2, 3, 4, 48, 49, 55, 56, 58, 67, 68, 74, 75, 81, 82, 95, 96, 122, 123, 125, 126, 127, 151, 152, 153, 383, 393, 399, 400, 406, 407, 413, 414, 569, 575, 576, 629, 630, 682, 688, 689, 695, 696, 697, 725, 726, 732, 733, 754, 755, 761, 762, 764, 765, 770, 776, 777, 783, 784, 790, 791, 795, 796, 802, 803, 809, 810, 816, 817, 821, 822]
noncomputable def hdHook : Hook := kmHook (Kf PG) asK (fun _ => by kernel_rfl) [70]
noncomputable def lkQ (w : World) (s : Shared) : Bool := staticsOk modsL (S0 w).heap s.heap && namesBound PG s.heap && gensDone s && laidKept (S0 w).heap s.heap
theorem hdC (w : World) : (run6 w).map (fun r => (r.1, r.2.2.1, r.2.2.2, hdHook.obs r.2.1.abs, lkQ w r.2.1.abs, seenQ qv looseL modsL (fun _ => true) true r.2.1.abs)) = some (.next, cT, PL, hdHook.val w, true, openGood qv looseL) := by kernel_rfl
end
-- MHead3
section
theorem impQ_eq : @importEnds = impQ := PySem.W.Fast.te10274390034422433532
theorem fenceQ_eq : @fenceModules? = fenceQ := PySem.W.Fast.te14289696077712309145
theorem startQ_eq : @start = startQ := PySem.W.Fast.te1435165496053646825
theorem topGoQ_eq : @topGo = topGoQ := PySem.W.Fast.te15667345088766844465
theorem segRunQ_eq : @segRun = segRunQ := PySem.W.Fast.te14374325043358763698
theorem segTQ_eq : @segRunT = segTQ := PySem.W.Fast.te10110043849684766642
theorem tabQ_eq : treeTable = tabQ := PySem.W.Fast.te14364793385576792824
theorem denQ_eq : @denote = denQ := PySem.W.Fast.te11892475500146522536
theorem execsQ_eq : @execs = execsQ := PySem.W.Fast.te12563942051412417395
theorem bstartQ_eq : @blockStart = bstartQ := PySem.W.Fast.te1066825118222455980
theorem seenQ_eq : @openSeen = seenQ := PySem.W.Fast.te4187177175401517315
theorem hdCex (w : World) : ∃ T, run6 w = some (.next, T, cT, PL) ∧ hdHook.obs T.abs = hdHook.val w ∧ lkQ w T.abs = true ∧ openSeen qv looseL modsL (fun _ => true) true T.abs = openGood qv looseL := by
  obtain ⟨r, hr, e⟩ := Option.map_eq_some_iff.mp (hdC w)
  obtain ⟨f, T, c, p⟩ := r
  obtain ⟨e1, e⟩ := Prod.mk.inj e
  obtain ⟨e2, e⟩ := Prod.mk.inj e
  obtain ⟨e3, e⟩ := Prod.mk.inj e
  obtain ⟨e4, e⟩ := Prod.mk.inj e
  obtain ⟨e5, e6⟩ := Prod.mk.inj e
  refine ⟨T, ?_, e4, e5, ?_⟩
  · rw [hr]
    exact congrArg some (Prod.ext e1 (Prod.ext rfl (Prod.ext e2 e3)))
  · rw [seenQ_eq]; exact e6
theorem run5_ok (w : World) : segRunT treeTable PG w 34 annT 1 1400 (T4 w) (piecesOf ((bodyT.drop 5).take 1) envT cT P4 B0) = some (.next, T5 w, cT, P5) := by
  have h : ∀ x y, run5 w x y = some (.next, T5 w, cT, P5) := by
    obtain ⟨_, s⟩ := Prod.mk.inj (hdB w)
    obtain ⟨a, s⟩ := Prod.mk.inj s
    obtain ⟨b, s⟩ := Prod.mk.inj s
    obtain ⟨c, d⟩ := Prod.mk.inj s
    intro x y
    cases x with
    | false => cases y with
      | false => exact a
      | true => exact b
    | true => cases y with
      | false => exact c
      | true => exact d
  have e : fw w (w.params.followText "comprehension-iter-twice") (w.params.followText "special-get-raises") = w := by
    unfold fw; rw [World.withFollow_self, World.withFollow_self]
  have h := h (w.params.followText "comprehension-iter-twice") (w.params.followText "special-get-raises")
  unfold run5 thP at h
  rw [e, ← segTQ_eq, ← tabQ_eq, ← execsQ_eq] at h
  exact h
theorem run4_ok (w : World) : segRunT treeTable PG w 34 annT 1 400 (T0 w) (piecesOf (bodyT.take 5) envT cT P0 B0) = some (.next, T4 w, cT, P4) := by
  have s4 := (Prod.mk.inj (hdB w)).1
  unfold run4 thP at s4
  rw [← segTQ_eq, ← tabQ_eq, ← execsQ_eq] at s4
  exact s4
end
-- MHead4
section
theorem fin_ok {w : World} {cT : Code} {p q : Pos} (s : Shared) : topRun treeTable PG w 34 annT 5 s ⟨doneF .next, cT, p, [topFrame q]⟩ = some s := by
  obtain ⟨h, g, d, t, o⟩ := s
  rfl
theorem bodyT_cut (l : List Stmt) : l.take 5 ++ ((l.drop 5).take 1 ++ (l.drop 6 ++ [])) = l := by
  rw [List.append_nil, show l.drop 6 = (l.drop 5).drop 1 by rw [List.drop_drop], List.take_append_drop, List.take_append_drop]
theorem run6_ok (w : World) (T : SharedT) (h6 : run6 w = some (.next, T, cT, PL)) : segRunT treeTable PG w 34 annT 1 6000 (T5 w) (piecesOf (bodyT.drop 6) envT cT P5 B0) = some (.next, T, cT, PL) := by
  unfold run6 thP at h6
  rw [← segTQ_eq, ← tabQ_eq, ← execsQ_eq] at h6
  exact h6
theorem k4_of {w : World} {a b c : List Stmt} {s0 s1 s2 s3 : Shared} {p0 p1 p2 p3 : Pos} {e : Env} {cd : Code}
    (h1 : segRun treeTable PG w 34 annT 1 400 s0 (piecesOf a e cd p0 [topFrame P0]) = some (.next, s1, cd, p1))
    (h2 : segRun treeTable PG w 34 annT 1 1400 s1 (piecesOf b e cd p1 [topFrame P0]) = some (.next, s2, cd, p2))
    (h3 : segRun treeTable PG w 34 annT 1 6000 s2 (piecesOf c e cd p2 [topFrame P0]) = some (.next, s3, cd, p3)) :
    topRun treeTable PG w 34 annT 7805 s0 (restOf (a ++ (b ++ (c ++ []))) e cd p0 [topFrame P0]) = some s3 :=
  piece_app (n := 400) (N := 7405) h1 (piece_app (n := 1400) (N := 6005) h2 (piece_app (n := 6000) (N := 5) h3 (piece_nil (fin_ok s3))))
theorem k4_ok (w : World) (T : SharedT) (h6 : run6 w = some (.next, T, cT, PL)) : topRun treeTable PG w 34 annT 7805 (T0 w).abs (restOf bodyT envT cT P0 [topFrame P0]) = some T.abs := by
  have k := k4_of (segRun_of (run4_ok w)) (segRun_of (run5_ok w)) (segRun_of (run6_ok w T h6))
  rw [bodyT_cut bodyT] at k
  exact k
theorem f1 (w : World) : (importEnds treeTable (opening PG) w 1200 (start (opening PG)).1 (start (opening PG)).2).bind (fenceModules? PG) = some (S0 w) := by
  have f1 := (Prod.mk.inj (hdA w)).1
  unfold open0 at f1
  rw [← impQ_eq, ← tabQ_eq, ← startQ_eq, ← fenceQ_eq] at f1
  exact f1
theorem f3 (w : World) : topGo treeTable PG w 34 annT 12 (S0 w) (topStub PG) = some (Sa w, ⟨denote treeTable cT, cT, P0, B0⟩) := by
  have f3 := (Prod.mk.inj (Prod.mk.inj (Prod.mk.inj (hdA w)).2).2).1
  rw [← topGoQ_eq, ← tabQ_eq, ← denQ_eq] at f3
  exact f3
theorem f4 (w : World) : segRun treeTable PG w 34 annT 1 1 (Sa w) (blockOf bodyT envT cT P0 [topFrame P0]) = some (.next, Sb w, cT, P0) := by
  have f4 := (Prod.mk.inj (Prod.mk.inj (Prod.mk.inj (Prod.mk.inj (hdA w)).2).2).2).1
  unfold thB at f4
  rw [← segRunQ_eq, ← tabQ_eq, ← bstartQ_eq] at f4
  exact f4
theorem f5 (w : World) : (T0 w).abs = Sb w := (Prod.mk.inj (Prod.mk.inj (Prod.mk.inj (Prod.mk.inj (hdA w)).2).2).2).2
theorem top_of {w : World} {s0 sa sb s : Shared} {b : List Stmt} {e : Env} {p : Pos}
    (h1 : topGo treeTable PG w 34 annT 12 s0 (topStub PG) = some (sa, ⟨denote treeTable (.body b e), .body b e, p, [topFrame P0]⟩))
    (h2 : segRun treeTable PG w 34 annT 1 1 sa (blockOf b e (.body b e) p [topFrame P0]) = some (.next, sb, .body b e, p))
    (h3 : topRun treeTable PG w 34 annT 7805 sb (restOf b e (.body b e) p [topFrame P0]) = some s) : topRun treeTable PG w 34 annT 20000 s0 (topStub PG) = some s := by
  have kb := piece_block (n := 1) (N := 7805) h2 h3
  have ka := go_top (n := 12) (N := 1 + 7805) h1 kb
  exact topRun_mono 12182 _ _ _ _ ka
theorem topFrom_of {w : World} {s0 s : Shared} {ann : Option Value} {m : Nat} (f : (s0.heap.isNs mainGlobals && s0.gens.size == 0, s0.heap.objs.size, s0.heap.nsMap mainGlobals "__annotations__") = (true, m, ann))
    (k : topRun treeTable PG w m ann 20000 s0 (topStub PG) = some s) (l : (staticsOk modsL s0.heap s.heap && namesBound PG s.heap && gensDone s && laidKept s0.heap s.heap) = true) : topFrom treeTable PG w 20000 s0 = some s := by
  obtain ⟨z1, z2⟩ := Prod.mk.inj f
  obtain ⟨z2, z3⟩ := Prod.mk.inj z2
  unfold topFrom
  rw [z1, z2, z3]
  dsimp only
  rw [k]
  dsimp only [Option.bind]
  show (match (staticsOk modsL s0.heap s.heap && namesBound PG s.heap && gensDone s && laidKept s0.heap s.heap) with | true => some s | false => none) = _
  rw [l]
theorem fenced_of {w : World} {s : Shared} (f : (importEnds treeTable (opening PG) w 1200 (start (opening PG)).1 (start (opening PG)).2).bind (fenceModules? PG) = some s) : fencedOpening treeTable PG w 20000 = some s := by
  obtain ⟨t, i1, i2⟩ := Option.bind_eq_some_iff.mp f
  have iN : importEnds treeTable (opening PG) w 20000 (start (opening PG)).1 (start (opening PG)).2 = some t := importEnds_mono 18800 _ _ _ _ i1
  unfold fencedOpening
  rw [iN]
  exact i2
theorem ends_of {w : World} {s0 s : Shared} (F : fencedOpening treeTable PG w 20000 = some s0) (G : topFrom treeTable PG w 20000 s0 = some s) : openEnds treeTable PG w 20000 = some s := by
  unfold openEnds
  rw [F]
  exact G
theorem hdLeft (w : World) : (openEnds treeTable PG w 20000).map (fun s => (openSeen qv looseL (importedModules PG.main.body) (fun _ => true) true s, hdHook.obs s)) = some (openGood qv looseL, hdHook.val w) := by
  obtain ⟨T, h6, e1, e2, e3⟩ := hdCex w
  have k4 := k4_ok w T h6
  rw [f5] at k4
  have G := topFrom_of (Prod.mk.inj (Prod.mk.inj (hdA w)).2).1 (top_of (f3 w) (f4 w) k4) e2
  rw [ends_of (fenced_of (f1 w)) G]
  exact congrArg some (Prod.ext e3 e1)
end
-- MSaid
section
noncomputable abbrev rwQ : OpenLaw := PySem.Challenge.rw_ko0066_01
theorem and_t {a b : Bool} (h1 : a = true) (h2 : b = true) : (a && b) = true := by rw [h1, h2]; rfl
noncomputable def wellQ := @PySem.W.Fast.tw9446332074065402090
theorem wellQ_eq : @OpenLaw.wellSaid = wellQ := PySem.W.Fast.te9446332074065402090
theorem l0 : PySem.W.Fast.tw12908688711261696721 PG = true := by
  delta PySem.W.Fast.tw12908688711261696721
  repeat' with_reducible apply and_t
  all_goals decide +kernel
theorem w0 : PySem.W.Fast.tw2436336058641802641 (PySem.W.Fast.tw2368527892694137696 rwQ) = true := by
  delta PySem.W.Fast.tw2436336058641802641
  repeat' with_reducible apply and_t
  · exact l0
  all_goals decide +kernel
theorem w1 : PySem.W.Fast.tw17960256430627541270 (PySem.W.Fast.tw2368527892694137696 rwQ) = true := by
  delta PySem.W.Fast.tw17960256430627541270
  refine and_t (and_t w0 ?_) ?_ <;> decide +kernel
theorem wellQ_ok : wellQ rwQ = true := by
  unfold wellQ
  delta PySem.W.Fast.tw9446332074065402090
  repeat' with_reducible apply and_t
  · exact w1
  all_goals decide +kernel
theorem lawSaid : rwQ.wellSaid = true := by
  rw [wellQ_eq]; exact wellQ_ok
theorem tablesQ : PG.tablesWhole = true := by decide +kernel
end
-- MRules
section
noncomputable abbrev KK (w : World) : Frag := Kf PG w.params
theorem nsMg (w : World) (h : Heap) (X : (KK w).In h) : ∃ mg, h.Ns mainGlobals mg ∧ ∀ x r, nsIn (KK w) mainGlobals x = some r → mg x = r := by
  have e : nsOkIn (KK w) mainGlobals = true := by kernel_rfl
  have hn : h.Ns mainGlobals (h.nsMap mainGlobals) := .of_isNs (isNs_of_in X e)
  refine ⟨_, hn, fun x r q => ?_⟩
  cases r with
  | none => exact ns_none_of X hn q
  | some v => exact mg_of X hn q

section
variable {w : World} {A : Around} {E : Value → Shared → Prop} {O : OsState} {g : Heap} {L f : Addr} {m : Str → Option Value} {own own' : Own} {s : Shared} {qual : Str} {sc : Scope} {cd : Value}
theorem ldG {env : Env} {x : Str} {pos : Pos} {v : Value} {Q : Value → Shared → Prop} (C : At O g env.locals m own s) (G : Gd w g) (e : nsIn (KK w) mainGlobals x = some (some v)) (h : Q v s)
    (hk : env.scope.kind = .function := by rfl) (hx : env.kindOf x = some .globalImplicit := by rfl) (hd : (x == ("__debug__" : Str)) = false := by kernel_rfl) (hgl : env.globals = mainGlobals := by rfl) :
    wpAny (Md w) A (eval (.Name x pos) env) Q E s := by
  obtain ⟨mg, hn, hm⟩ := nsMg w g G.K
  exact Calls.Name_function_global hk hx (Calls.loadGlobal_global (env := env) (hgl ▸ hn.keeps C.keep) (hm _ _ e) h) hd
theorem mxIn {P : Prop} (C : At O g L m own s) (G : Gd w g) (h : P) : (KK w).In s.heap ∧ P := ⟨(C.gd G).K, h⟩
theorem ldB {env : Env} {x : Str} {pos : Pos} {v : Value} {Q : Value → Shared → Prop} (C : At O g env.locals m own s) (G : Gd w g) (e : nsIn (KK w) mainGlobals x = some none) (hv : bootBuiltins x = some v) (hn' : (x == ("__name__" : Str)) = false) (h : Q v s)
    (hk : env.scope.kind = .function := by rfl) (hx : env.kindOf x = some .globalImplicit := by rfl) (hd : (x == ("__debug__" : Str)) = false := by kernel_rfl) (hgl : env.globals = mainGlobals := by rfl) (hbl : env.builtins = builtinsNs := by rfl) :
    wpAny (Md w) A (eval (.Name x pos) env) Q E s := by
  obtain ⟨mg, hn, hm⟩ := nsMg w g G.K
  obtain ⟨mb, hb, hbb⟩ := G.b
  exact Calls.Name_function_global hk hx (Calls.loadGlobal_builtin (env := env) (hgl ▸ hn.keeps C.keep) (hm _ _ e) (hbl ▸ hb.keeps C.keep) ((hbb x (by simpa using hn')).trans hv) h) hd

theorem callK {k : Nat} {name qual : Str} {params : Arguments} {body : List Stmt} {scope : Scope} {dV kV doc pm cdv ct oc : Value} {an od : Option Addr} {osl : Array (Option Value)} {args : List Value} {kw : List (Str × Value)} {binds : List (Str × Value)} {Q : Value → Shared → Prop}
    (G : Gd w s.heap) (R : Rm k A) (hk : k ≤ 100) (ho : (KK w).lookup f = some ⟨oc, od, .func (fnOf name qual params body scope dV kV doc pm an cdv ct), osl⟩) (hcd : codeIn (KK w) cdv qual = true)
    (hbind : BindsTo s (fnOf name qual params body scope dV kV doc pm an cdv ct) ⟨args, kw⟩ binds) (hloc : (binds.all fun x => decide (scope.names.lookup x.1 = some .local)) = true)
    (hcell : (scope.names.all fun x => decide (x.2 ≠ .cell)) = true) (hco : scope.isCoroutine = false) (hgen : scope.isGenerator = false) (hkind : scope.kind = .function) (hg : s.gens = #[])
    (own : Own) (hown : ∀ p ∈ own, ∃ o, s.heap.get? p.1 = some o ∧ p.2 o) (hnd : (own.map Prod.fst).Nodup)
    (h : ∀ L s', At s.os (dropA s.heap (own.map Prod.fst)) L (fun x => binds.reverse.lookup x) own s' → (∀ b, b < s.heap.objs.size → s'.heap.get? b = s.heap.get? b) → wpAny (Md w) (A.deeper (envOf qual scope L f cdv)) (execs body (envOf qual scope L f cdv)) (fun fl s'' => Q (match fl with | .ret v => v | _ => .none) s'')
        (fun e s'' => wpAny (Md w) (A.deeper (envOf qual scope L f cdv)) (leaving (envOf qual scope L f cdv) e) (fun _ s3 => E e s3) E s'') s') :
    wpAny (Md w) A (call (.ref f) args kw) Q E s := by
  refine wpAny_call ?_
  refine codeAny_call_function (R.room hk) (G.K _ _ ho) rfl hco hgen rfl (codeRec_of G.K hcd) ?_
  refine hbind _ _ _ _ ?_
  have hc' : ∀ x ∈ scope.names, x.2 ≠ .cell := fun x hx => of_decide_eq_true (List.all_eq_true.mp hcell x hx)
  refine wpAny_newFunctionEnv hc' (locs hloc) (fun h' hns hsb => ⟨G.lim.fresh _ hsb, ?_⟩) hkind
  have key : ∀ b, b ≠ s.heap.objs.size → h'.get? b = (s.heap.push { cls := .type "frame", data := .dict #[] }).get? b := fun b hb => hsb.2 b hb
  have low : ∀ b o, s.heap.get? b = some o → h'.get? b = some o := fun b o e => by rw [key b (Nat.ne_of_lt (Heap.lt_size e))]; exact Heap.get?_push_of_some _ e
  have C : At s.os (dropA s.heap (own.map Prod.fst)) s.heap.objs.size (fun x => binds.reverse.lookup x) own { s with heap := h', toks := s.toks + binds.length } := by
    refine ⟨fun b o e => ?_, fun p hp => let ⟨o', e', q⟩ := hown p hp; ⟨o', low _ _ e', q⟩, hns, ?_, fun p hp => ⟨?_, ?_⟩, hnd, rfl, hg⟩
    · rw [dropA_get] at e; split at e
      · cases e
      · exact low b o e
    · rw [dropA_get]; split
      · rfl
      · cases e : s.heap.get? s.heap.objs.size with
        | none => rfl
        | some o => exact absurd (Heap.lt_size e) (Nat.lt_irrefl _)
    · rw [dropA_get, if_pos (List.mem_map.mpr ⟨p, hp, rfl⟩)]
    · exact Nat.ne_of_lt (Heap.lt_size (hown p hp).choose_spec.1)
  refine codeAny_func (wpAny_mono (h s.heap.objs.size _ C (fun b hb => ?_)) (fun fl s'' q => ?_) fun e s'' q => q)
  · show h'.get? b = _
    rw [key b (Nat.ne_of_lt hb)]
    cases s with | mk hp _ _ _ _ => cases hp with | mk objs life =>
      simp only [Heap.push, Heap.get?]
      rw [Array.getElem?_push_lt (by simpa using hb), Array.getElem?_eq_getElem (by simpa using hb)]
  · exact q
end
theorem callK0 {w : World} {A : Around} {E : Value → Shared → Prop} {f : Addr} {s : Shared} {k : Nat} {name qual : Str} {params : Arguments} {body : List Stmt} {scope : Scope} {dV kV doc pm cdv ct oc : Value} {an od : Option Addr} {osl : Array (Option Value)} {args : List Value} {kw : List (Str × Value)} {binds : List (Str × Value)} {Q : Value → Shared → Prop}
    (G : Gd w s.heap) (R : Rm k A) (hk : k ≤ 100) (ho : (KK w).lookup f = some ⟨oc, od, .func (fnOf name qual params body scope dV kV doc pm an cdv ct), osl⟩) (hcd : codeIn (KK w) cdv qual = true)
    (hbind : BindsTo s (fnOf name qual params body scope dV kV doc pm an cdv ct) ⟨args, kw⟩ binds) (hloc : (binds.all fun x => decide (scope.names.lookup x.1 = some .local)) = true)
    (hcell : (scope.names.all fun x => decide (x.2 ≠ .cell)) = true) (hco : scope.isCoroutine = false) (hgen : scope.isGenerator = false) (hkind : scope.kind = .function) (hg : s.gens = #[])
    (h : ∀ L s', At s.os s.heap L (fun x => binds.reverse.lookup x) [] s' → (∀ b, b < s.heap.objs.size → s'.heap.get? b = s.heap.get? b) → wpAny (Md w) (A.deeper (envOf qual scope L f cdv)) (execs body (envOf qual scope L f cdv)) (fun fl s'' => Q (match fl with | .ret v => v | _ => .none) s'')
        (fun e s'' => wpAny (Md w) (A.deeper (envOf qual scope L f cdv)) (leaving (envOf qual scope L f cdv) e) (fun _ s3 => E e s3) E s'') s') :
    wpAny (Md w) A (call (.ref f) args kw) Q E s :=
  callK G R hk ho hcd hbind hloc hcell hco hgen hkind hg [] (by simp) .nil h
end
-- MRules2
section
section
variable {w : World} {A : Around} {E : Value → Shared → Prop} {O : OsState} {g : Heap} {L f : Addr} {m : Str → Option Value} {own own' : Own} {s : Shared} {qual : Str} {sc : Scope} {cd : Value}
theorem cI {env : Env} {i : Int} {k pos} {Q : Value → Shared → Prop} (C : At O g L m own s) (h : ∀ t s', At O g L m own s' → Q (.int i t) s') : wpAny (Md w) A (eval (.Constant (.int i) k pos) env) Q E s := wpAny_Constant_int (h _ _ (C.toks _))
theorem cS {env : Env} {x : Str} {k pos} {Q : Value → Shared → Prop} (C : At O g L m own s) (h : ∀ t s', At O g L m own s' → Q (.str x t) s') : wpAny (Md w) A (eval (.Constant (.str x) k pos) env) Q E s := wpAny_Constant_str (h _ _ (C.toks _))
section
variable {a b : Int} {t u : Tok}
theorem addI {Q : Value → Shared → Prop} (C : At O g L m own s) (h : ∀ t s', At O g L m own s' → Q (.int (a + b) t) s') : wpAny (Md w) A (binaryOp .Add (.int a t) (.int b u)) Q E s := wpAny_add_int (h _ _ (C.toks _))
theorem subI {Q : Value → Shared → Prop} (C : At O g L m own s) (h : ∀ t s', At O g L m own s' → Q (.int (a - b) t) s') : wpAny (Md w) A (binaryOp .Sub (.int a t) (.int b u)) Q E s := P.sub_int (h _ _ (C.toks _))
theorem iaddI {Q : Value → Shared → Prop} (C : At O g L m own s) (h : ∀ t s', At O g L m own s' → Q (.int (a + b) t) s') : wpAny (Md w) A (inplaceOp .Add (.int a t) (.int b u)) Q E s := wpAny_iadd_int (h _ _ (C.toks _))
theorem ltI {Q : Value → Shared → Prop} (h : Q (.bool (decide (a < b))) s) : wpAny (Md w) A (compareOp .Lt (.int a t) (.int b u)) Q E s := wpAny_lt_int h
theorem geI {Q : Value → Shared → Prop} (h : Q (.bool (decide (b ≤ a))) s) : wpAny (Md w) A (compareOp .GtE (.int a t) (.int b u)) Q E s := ge_int h
theorem gtI {Q : Value → Shared → Prop} (h : Q (.bool (decide (b < a))) s) : wpAny (Md w) A (compareOp .Gt (.int a t) (.int b u)) Q E s := gt_int h
theorem eqI {Q : Value → Shared → Prop} (h : Q (.bool (a == b)) s) : wpAny (Md w) A (compareOp .Eq (.int a t) (.int b u)) Q E s := eq_int h
theorem itemS {value slice : Expr} {x : Str} {Q : Value → Shared → Prop} (C : At O g L m own s) (h1 : 0 ≤ a) (h2 : a < x.length) (hx : x.length ≤ 2 ^ 62) (h : ∀ t s', At O g L m own s' → Q (.str ⟨#[x.cps.toList.getD a.toNat 0]⟩ t) s')
    (hs : subscripted slice false (.str x t) (.int a u) = operate [.str x t, .int a u] (getItem (.str x t) (.int a u)) := by with_unfolding_all rfl)
    (ht : ∀ r, letTemporaryGo value (.str x t) r = pure () := by intro _; with_unfolding_all rfl) : wpAny (Md w) A (subscriptTail value slice (.str x t) (.int a u)) Q E s := by
  refine item_str (by unfold fitsSsize; simp; lia) (by lia) h2 (fun _ => ?_) hs ht
  have e : Txt.item x a = ⟨#[x.cps.toList.getD a.toNat 0]⟩ := by
    unfold Txt.item
    unfold Txt.charAt seqIndex?
    have h3 : ¬ (a < 0) := by lia
    simp only [h3, if_false]
    have h4 : a.toNat < x.cps.size := by have : x.length = x.cps.size := rfl; lia
    rw [if_pos (by simp only [Bool.and_eq_true, decide_eq_true_eq]; exact ⟨h1, h2⟩)]
    simp [h4]
  rw [e]
  exact h _ _ (C.toks _)
theorem chrI {Q : Value → Shared → Prop} (C : At O g L m own s) (h0 : 0 ≤ a) (h1 : a ≤ 1114111) (h : ∀ t s', At O g L m own s' → Q (.str ⟨#[a.toNat]⟩ t) s') : wpAny (Md w) A (call (.builtin "chr") [.int a t]) Q E s := chr_of_range h0 h1 (h _ _ (C.toks _))
end
end
end
-- MNames
section
theorem gn_law_figures (w : World) : nsIn (KK w) mainGlobals "_law_figures" = some (some (.ref 784)) := by kernel_rfl
theorem gn_law_sign (w : World) : nsIn (KK w) mainGlobals "_law_sign" = some (some (.ref 791)) := by kernel_rfl
theorem gn_law_bare (w : World) : nsIn (KK w) mainGlobals "_law_bare" = some (some (.ref 796)) := by kernel_rfl
theorem gn_law_strands (w : World) : nsIn (KK w) mainGlobals "_law_strands" = some (some (.ref 803)) := by kernel_rfl
theorem gn_law_marked (w : World) : nsIn (KK w) mainGlobals "_law_marked" = some (some (.ref 810)) := by kernel_rfl
theorem gn_law_words (w : World) : nsIn (KK w) mainGlobals "_law_words" = some (some (.ref 817)) := by kernel_rfl
theorem gntranslate (w : World) : nsIn (KK w) mainGlobals "translate" = some (some (.ref 56)) := by kernel_rfl
theorem gn_translate (w : World) : nsIn (KK w) mainGlobals "_translate" = some (some (.ref 75)) := by kernel_rfl
theorem gn_join_translated_parts (w : World) : nsIn (KK w) mainGlobals "_join_translated_parts" = some (some (.ref 82)) := by kernel_rfl
theorem gnescape (w : World) : nsIn (KK w) mainGlobals "escape" = some (some (.ref 68)) := by kernel_rfl
theorem gn_special_chars_map (w : World) : nsIn (KK w) mainGlobals "_special_chars_map" = some (some (.ref 58)) := by kernel_rfl
theorem gn_twin_re_1 (w : World) : nsIn (KK w) mainGlobals "_twin_re_1" = some (some (.ref 49)) := by kernel_rfl
theorem gnsplit (w : World) : nsIn (KK w) mainGlobals "split" = some (some (.ref 777)) := by kernel_rfl
theorem gnshlex (w : World) : nsIn (KK w) mainGlobals "shlex" = some (some (.ref 765)) := by kernel_rfl
theorem gnStringIO (w : World) : nsIn (KK w) mainGlobals "StringIO" = some (some (.ref 630)) := by kernel_rfl
theorem gnBytesIO (w : World) : nsIn (KK w) mainGlobals "BytesIO" = some (some (.ref 383)) := by kernel_rfl
theorem gn_deque (w : World) : nsIn (KK w) mainGlobals "deque" = some (some (.type "collections.deque")) := by kernel_rfl
theorem gb_chr (w : World) : nsIn (KK w) mainGlobals "chr" = some none := by kernel_rfl
theorem gb_abs (w : World) : nsIn (KK w) mainGlobals "abs" = some none := by kernel_rfl
theorem gb_len (w : World) : nsIn (KK w) mainGlobals "len" = some none := by kernel_rfl
theorem gb_range (w : World) : nsIn (KK w) mainGlobals "range" = some none := by kernel_rfl
theorem gb_object (w : World) : nsIn (KK w) mainGlobals "object" = some none := by kernel_rfl
theorem gb_isinstance (w : World) : nsIn (KK w) mainGlobals "isinstance" = some none := by kernel_rfl
theorem gb_str (w : World) : nsIn (KK w) mainGlobals "str" = some none := by kernel_rfl
theorem gb_list (w : World) : nsIn (KK w) mainGlobals "list" = some none := by kernel_rfl
theorem gb_ValueError (w : World) : nsIn (KK w) mainGlobals "ValueError" = some none := by kernel_rfl
theorem gb_type (w : World) : nsIn (KK w) mainGlobals "type" = some none := by kernel_rfl
theorem gb_print (w : World) : nsIn (KK w) mainGlobals "print" = some none := by kernel_rfl
theorem gb_StopIteration (w : World) : nsIn (KK w) mainGlobals "StopIteration" = some none := by kernel_rfl
theorem gb_int (w : World) : nsIn (KK w) mainGlobals "int" = some none := by kernel_rfl
theorem gb_bool (w : World) : nsIn (KK w) mainGlobals "bool" = some none := by kernel_rfl
theorem lk784 (w : World) : (KK w).lookup 784 = some (k784 PG w.params) := by kernel_rfl
theorem cd784 (w : World) : codeIn (KK w) (.ref 783) "_law_figures" = true := by kernel_rfl
theorem lk791 (w : World) : (KK w).lookup 791 = some (k791 PG w.params) := by kernel_rfl
theorem cd791 (w : World) : codeIn (KK w) (.ref 790) "_law_sign" = true := by kernel_rfl
theorem lk796 (w : World) : (KK w).lookup 796 = some (k796 PG w.params) := by kernel_rfl
theorem cd796 (w : World) : codeIn (KK w) (.ref 795) "_law_bare" = true := by kernel_rfl
theorem lk803 (w : World) : (KK w).lookup 803 = some (k803 PG w.params) := by kernel_rfl
theorem cd803 (w : World) : codeIn (KK w) (.ref 802) "_law_strands" = true := by kernel_rfl
theorem lk810 (w : World) : (KK w).lookup 810 = some (k810 PG w.params) := by kernel_rfl
theorem cd810 (w : World) : codeIn (KK w) (.ref 809) "_law_marked" = true := by kernel_rfl
theorem lk817 (w : World) : (KK w).lookup 817 = some (k817 PG w.params) := by kernel_rfl
theorem cd817 (w : World) : codeIn (KK w) (.ref 816) "_law_words" = true := by kernel_rfl
theorem lk822 (w : World) : (KK w).lookup 822 = some (k822 PG w.params) := by kernel_rfl
theorem cd822 (w : World) : codeIn (KK w) (.ref 821) "law" = true := by kernel_rfl
theorem lk56 (w : World) : (KK w).lookup 56 = some (k56 PG w.params) := by kernel_rfl
theorem cd56 (w : World) : codeIn (KK w) (.ref 55) "translate" = true := by kernel_rfl
theorem lk75 (w : World) : (KK w).lookup 75 = some (k75 PG w.params) := by kernel_rfl
theorem cd75 (w : World) : codeIn (KK w) (.ref 74) "_translate" = true := by kernel_rfl
theorem lk82 (w : World) : (KK w).lookup 82 = some (k82 PG w.params) := by kernel_rfl
theorem cd82 (w : World) : codeIn (KK w) (.ref 81) "_join_translated_parts" = true := by kernel_rfl
theorem lk68 (w : World) : (KK w).lookup 68 = some (k68 PG w.params) := by kernel_rfl
theorem cd68 (w : World) : codeIn (KK w) (.ref 67) "escape" = true := by kernel_rfl
theorem lk777 (w : World) : (KK w).lookup 777 = some (k777 PG w.params) := by kernel_rfl
theorem cd777 (w : World) : codeIn (KK w) (.ref 776) "split" = true := by kernel_rfl
theorem lk123 (w : World) : (KK w).lookup 123 = some (k123 PG w.params) := by kernel_rfl
theorem cd123 (w : World) : codeIn (KK w) (.ref 122) "IOBase.__new__" = true := by kernel_rfl
theorem lk400 (w : World) : (KK w).lookup 400 = some (k400 PG w.params) := by kernel_rfl
theorem cd400 (w : World) : codeIn (KK w) (.ref 399) "StringIO.__init__" = true := by kernel_rfl
theorem lk407 (w : World) : (KK w).lookup 407 = some (k407 PG w.params) := by kernel_rfl
theorem cd407 (w : World) : codeIn (KK w) (.ref 406) "StringIO.__translated" = true := by kernel_rfl
theorem lk414 (w : World) : (KK w).lookup 414 = some (k414 PG w.params) := by kernel_rfl
theorem cd414 (w : World) : codeIn (KK w) (.ref 413) "StringIO.__check" = true := by kernel_rfl
theorem lk576 (w : World) : (KK w).lookup 576 = some (k576 PG w.params) := by kernel_rfl
theorem cd576 (w : World) : codeIn (KK w) (.ref 575) "StringIO.read" = true := by kernel_rfl
theorem lk689 (w : World) : (KK w).lookup 689 = some (k689 PG w.params) := by kernel_rfl
theorem cd689 (w : World) : codeIn (KK w) (.ref 688) "shlex.__init__" = true := by kernel_rfl
theorem lk696 (w : World) : (KK w).lookup 696 = some (k696 PG w.params) := by kernel_rfl
theorem cd696 (w : World) : codeIn (KK w) (.ref 695) "shlex.punctuation_chars" = true := by kernel_rfl
theorem lk726 (w : World) : (KK w).lookup 726 = some (k726 PG w.params) := by kernel_rfl
theorem cd726 (w : World) : codeIn (KK w) (.ref 725) "shlex.get_token" = true := by kernel_rfl
theorem lk733 (w : World) : (KK w).lookup 733 = some (k733 PG w.params) := by kernel_rfl
theorem cd733 (w : World) : codeIn (KK w) (.ref 732) "shlex.read_token" = true := by kernel_rfl
theorem lk755 (w : World) : (KK w).lookup 755 = some (k755 PG w.params) := by kernel_rfl
theorem cd755 (w : World) : codeIn (KK w) (.ref 754) "shlex.__iter__" = true := by kernel_rfl
theorem lk762 (w : World) : (KK w).lookup 762 = some (k762 PG w.params) := by kernel_rfl
theorem cd762 (w : World) : codeIn (KK w) (.ref 761) "shlex.__next__" = true := by kernel_rfl
theorem gn_index (w : World) : nsIn (KK w) mainGlobals "_index" = some (some (.ref 96)) := by kernel_rfl
theorem lk96 (w : World) : (KK w).lookup 96 = some (k96 PG w.params) := by kernel_rfl
theorem cd96 (w : World) : codeIn (KK w) (.ref 95) "_index" = true := by kernel_rfl
end
-- MSeq
section
noncomputable def lst (vs : List Value) : OP := fun o => ∃ n, o = { cls := .type "list", data := .seq vs.toArray n }
noncomputable def strIt (x : Str) (t : Tok) (i : Nat) : OP := fun o => o.cls = .type (strIterType x) ∧ o.data = .fields #[.str x t, .int i 0]
noncomputable def lstIt (l : Addr) (i : Nat) : OP := fun o => o.cls = .type "list_iterator" ∧ o.data = .fields #[.ref l, .int i 0]
noncomputable def ListIn (h : Heap) (l : Addr) (vs : List Value) : Prop := ∃ o, h.get? l = some o ∧ lst vs o
theorem ListIn.keeps {h h' : Heap} {l : Addr} {vs : List Value} (x : ListIn h l vs) (k : Keeps h h') : ListIn h' l vs := let ⟨o, e, p⟩ := x; ⟨o, k _ _ e, p⟩
theorem ListIn.isList {h : Heap} {l : Addr} {vs : List Value} (x : ListIn h l vs) : h.IsList l vs.toArray := let ⟨o, e, n, d⟩ := x; ⟨o, e, by rw [d], n, by rw [d]⟩
theorem lst_new (vs : List Value) (n : Nat) : lst vs { cls := .type "list", data := .seq vs.toArray n } := ⟨n, rfl⟩

section
variable {w : World} {A : Around} {E : Value → Shared → Prop} {O : OsState} {g : Heap} {L f : Addr} {m : Str → Option Value} {own own' : Own} {s : Shared}
theorem At.listIn (C : At O g L m own s) {l : Addr} {vs : List Value} (h : (l, lst vs) ∈ own) : ListIn s.heap l vs := C.ow _ h
theorem cutAt {e : Sem Value} {Q : Value → Shared → Prop} (C : At O g L m own s) (V : Value → Prop) (h1 : wpAny (Md w) A e (fun v s' => V v ∧ At O g L m own s') E s) (h2 : ∀ v s', V v → At O g L m own s' → Q v s') : wpAny (Md w) A e Q E s :=
  wpAny_mono h1 (fun v s' x => h2 v s' x.1 x.2) fun _ _ e => e
theorem nL {vs : List Value} {Q : Value → Shared → Prop} (C : At O g L m own s) (hsz : vs.length ≤ sizeLine) (h : ∀ a s', At O g L m ((a, lst vs) :: own) s' → Keeps s.heap s'.heap → s.heap.get? a = none → Q (.ref a) s') : wpAny (Md w) A (newList vs) Q E s := by
  refine wpAny_newObj_type (h _ _ (C.push _ rfl (lst_new vs 0)) (fun b o e => Heap.get?_push_of_some _ e) ?_) (by show vs.toArray.size ≤ sizeLine; rw [List.size_toArray]; exact hsz)
  cases e : s.heap.get? s.heap.objs.size with
  | none => rfl
  | some o => exact absurd (Heap.lt_size e) (Nat.lt_irrefl _)
theorem appL {D : Addr} {vs : List Value} {x : Value} {Q : Value → Shared → Prop} (C : At O g L m own s) (u : Upd D (lst vs) (lst (vs ++ [x])) own own') (hsz : vs.length ≤ sizeLine) (h : ∀ s', At O g L m own' s' → Q .none s') :
    wpAny (Md w) A (call (.builtin "list.append") [.ref D, x]) Q E s := by
  obtain ⟨o, ho, n, ro⟩ := C.get u.mem
  have hc : o.cls = .type "list" := by rw [ro]
  have hd : o.data = .seq vs.toArray n := by rw [ro]
  refine wpAny_call_entry slot_list_append ⟨_, ho, hc⟩ entry_list_append ?_ (args_list_append _ _)
  show wpAny _ _ (updateSeq D (·.push x) >>= fun _ => ret .none) _ _ s
  refine wpAny_bind ?_
  refine wpAny_updateSeq ho hd (wpAny_pure ⟨.none, rfl, h _ (C.upd u (Heap.SameBut.update ..) ?_ s.toks)⟩) (by simpa using hsz) (by simp only [Array.size_push, List.size_toArray]; lia)
  obtain ⟨n', hd'⟩ := Obj.data_mapSeq hd (·.push x)
  refine ⟨_, Heap.get?_update_self _ ho (Obj.isFreed_of_seq hd'), ?_⟩
  obtain ⟨c, d, dt, sl⟩ := o
  injection ro with r1 r2 r3 r4
  subst r1 r2 r3 r4
  exact ⟨_, by simp [Obj.mapSeq]; rfl⟩
theorem mAppL {D : Addr} {vs : List Value} {pl : Sem Bool} {Q : Value × List Value → Shared → Prop} (C : At O g L m own s) (h1 : (D, lst vs) ∈ own) (h : Q (.builtin "list.append", [.ref D]) s) : wpAny (Md w) A (getMethod (.ref D) "append" pl) Q E s := by
  obtain ⟨o, ho, n, ro⟩ := C.get h1
  exact Calls.getMethod_list_append ho (by rw [ro]) (by rw [ro]) h
end
end
-- MIter
section
theorem At.loose {O : OsState} {g : Heap} {L : Addr} {m : Str → Option Value} {rest : Own} {s s' : Shared} {a : Addr} {P : OP} (C : At O g L m ((a, P) :: rest) s) (k : KeepsBut [a] s.heap s'.heap) (ho : s'.os = s.os) (hg : s'.gens = s.gens) : At O g L m rest s' := by
  have ga := C.gown (a, P) (.head _)
  have nd := C.nd
  simp only [List.map_cons, List.nodup_cons] at nd
  refine ⟨fun b o e => k b o (fun q => ?_) (C.keep b o e), fun p hp => ?_, ?_, C.gL, fun p hp => C.gown p (.tail _ hp), nd.2, ho.trans C.os, hg.trans C.gens⟩
  · rw [List.mem_singleton.mp q, ga.1] at e; cases e
  · obtain ⟨o', e', q⟩ := C.ow p (.tail _ hp)
    exact ⟨o', k _ _ (fun z => nd.1 (List.mem_map.mpr ⟨p, hp, List.mem_singleton.mp z⟩)) e', q⟩
  · obtain ⟨o, es, ep, e, r⟩ := C.ns
    exact ⟨o, es, ep, k _ _ (fun q => ga.2 (List.mem_singleton.mp q).symm) e, r⟩

theorem At.perm {O : OsState} {g : Heap} {L : Addr} {m : Str → Option Value} {own own' : Own} {s : Shared} (C : At O g L m own s) (h : own.Perm own') : At O g L m own' s :=
  ⟨C.keep, fun p hp => C.ow p (h.mem_iff.mpr hp), C.ns, C.gL, fun p hp => C.gown p (h.mem_iff.mpr hp), (h.map Prod.fst).nodup_iff.mp C.nd, C.os, C.gens⟩

theorem At.h2 {O : OsState} {g : Heap} {L : Addr} {m : Str → Option Value} {x y : Addr × OP} {r : Own} {s : Shared} (C : At O g L m (x :: y :: r) s) : At O g L m (y :: x :: r) s := C.perm (List.Perm.swap ..)
theorem At.h3 {O : OsState} {g : Heap} {L : Addr} {m : Str → Option Value} {x y z : Addr × OP} {r : Own} {s : Shared} (C : At O g L m (x :: y :: z :: r) s) : At O g L m (z :: x :: y :: r) s :=
  C.perm ((List.Perm.cons _ (List.Perm.swap ..)).trans (List.Perm.swap ..))

theorem At.freeze {O : OsState} {g : Heap} {L : Addr} {m : Str → Option Value} {own : Own} {s : Shared} {a : Addr} {P : OP} (C : At O g L m ((a, P) :: own) s) :
    ∃ g', Keeps g g' ∧ At O g' L m own s ∧ (∃ o, g'.get? a = some o ∧ P o) ∧ ∀ b o, s.heap.get? b = some o → b ≠ L → b ∉ own.map Prod.fst → g'.get? b = some o := by
  obtain ⟨C', kg, low⟩ := C.rebase (own' := own) (List.sublist_cons_self _ _)
  obtain ⟨o, e1, e2⟩ := C.ow _ (.head _)
  have nd := C.nd
  simp only [List.map_cons, List.nodup_cons] at nd
  exact ⟨_, kg, C', ⟨o, low _ _ e1 (C.gown _ (.head _)).2 nd.1, e2⟩, low⟩

theorem At.take {O : OsState} {g : Heap} {L : Addr} {m : Str → Option Value} {own : Own} {s s3 : Shared} (C : At O g L m own s) (k : Keeps s.heap s3.heap) (ho : s3.os = s.os) (hg : s3.gens = #[]) :
    ∃ g3, Keeps g g3 ∧ At O g3 L m own s3 ∧ ∀ b o, s3.heap.get? b = some o → s.heap.get? b = none → g3.get? b = some o := by
  obtain ⟨C', kg, low⟩ := (C.grow k ho (hg.trans C.gens.symm)).rebase (own' := own) (List.Sublist.refl _)
  refine ⟨_, kg, C', fun b o e n => low b o e (fun q => ?_) (fun q => ?_)⟩
  · obtain ⟨oL, _, _, e2, _⟩ := C.ns
    rw [q, e2] at n; cases n
  · obtain ⟨p, hp, rfl⟩ := List.mem_map.mp q
    obtain ⟨o2, e2, _⟩ := C.ow p hp
    rw [e2] at n; cases n

structure IterK (w : World) (IT : Nat → OP) (n : Nat) (item : Nat → Value → Prop) (Cond : Heap → Prop) : Prop where
  mono : ∀ g g', Keeps g g' → Cond g → Cond g'
  next : ∀ {A : Around} {E : Value → Shared → Prop} {O : OsState} {g : Heap} {L : Addr} {m : Str → Option Value} {rest : Own} {s : Shared} {it : Addr} {i : Nat} {Q : Option Value → Shared → Prop}, Cond g → i < n → At O g L m ((it, IT i) :: rest) s →
    (∀ v s', item i v → At O g L m ((it, IT (i + 1)) :: rest) s' → Q (some v) s') → wpAny (Md w) A (pyNext (.ref it)) Q E s
  stop : ∀ {A : Around} {E : Value → Shared → Prop} {O : OsState} {g : Heap} {L : Addr} {m : Str → Option Value} {rest : Own} {s : Shared} {it : Addr} {Q : Option Value → Shared → Prop}, A.handled = none → Cond g → At O g L m ((it, IT n) :: rest) s →
    (∀ s', At O g L m rest s' → Q none s') → wpAny (Md w) A (pyNext (.ref it)) Q E s
  again : ∀ {A : Around} {E : Value → Shared → Prop} {O : OsState} {g : Heap} {L : Addr} {m : Str → Option Value} {rest : Own} {s : Shared} {it : Addr} {i : Nat} {Q : Value → Shared → Prop}, At O g L m ((it, IT i) :: rest) s → Q (.ref it) s → wpAny (Md w) A (pyIter (.ref it)) Q E s

theorem iterStr (w : World) (x : Str) (t : Tok) : IterK w (strIt x t) x.length (fun i v => ∃ c t', x.cps[i]? = some c ∧ v = .str ⟨#[c]⟩ t') (fun _ => True) where
  mono := fun _ _ _ _ => trivial
  next := by
    intro A E O g L m rest s it i Q _ hi C h
    obtain ⟨o, ho, hc, hd⟩ := C.get (.head _)
    have hi' : i < x.cps.size := hi
    have hx : x.cps[i]? = some x.cps[i] := Array.getElem?_eq_getElem hi'
    unfold strIterType at hc
    cases ha : x.cps.all (· < 128) with
    | true =>
      rw [ha, if_pos rfl] at hc
      refine wpAny_pyNext_ascii_item ⟨o, ho, hc, hd⟩ hx (fun h' hit hs => h _ _ ⟨_, _, hx, rfl⟩ (C.upd .head hs ?_ _))
      obtain ⟨o', e1, e2, e3⟩ := hit
      exact ⟨o', e1, by unfold strIterType; rw [ha]; exact e2, e3⟩
    | false =>
      rw [ha, if_neg Bool.false_ne_true] at hc
      refine wpAny_pyNext_wide_item ⟨o, ho, hc, hd⟩ hx (fun h' hit hs => h _ _ ⟨_, _, hx, rfl⟩ (C.upd .head hs ?_ _))
      obtain ⟨o', e1, e2, e3⟩ := hit
      exact ⟨o', e1, by unfold strIterType; rw [ha]; exact e2, e3⟩
  stop := by
    intro A E O g L m rest s it Q hh _ C h
    obtain ⟨o, ho, hc, hd⟩ := C.get (.head _)
    have hx : x.cps[x.length]? = none := Array.getElem?_eq_none (Nat.le_refl _)
    unfold strIterType at hc
    cases ha : x.cps.all (· < 128) with
    | true =>
      rw [ha, if_pos rfl] at hc
      exact wpAny_pyNext_ascii_end hh ⟨o, ho, hc, hd⟩ hx (fun h' hs => h _ (C.loose (s' := { s with heap := h' }) (fun b o q e => hs b o (fun z => q (List.mem_singleton.mpr z)) e) rfl rfl))
    | false =>
      rw [ha, if_neg Bool.false_ne_true] at hc
      exact wpAny_pyNext_wide_end hh ⟨o, ho, hc, hd⟩ hx (fun h' hs => h _ (C.loose (s' := { s with heap := h' }) (fun b o q e => hs b o (fun z => q (List.mem_singleton.mpr z)) e) rfl rfl))
  again := by
    intro A E O g L m rest s it i Q C h
    obtain ⟨o, ho, hc, hd⟩ := C.get (.head _)
    unfold strIterType at hc
    cases ha : x.cps.all (· < 128) with
    | true =>
      rw [ha, if_pos rfl] at hc
      exact wpAny_pyIter_striter_ascii ⟨o, ho, hc, hd⟩ h
    | false =>
      rw [ha, if_neg Bool.false_ne_true] at hc
      exact wpAny_pyIter_striter_wide ⟨o, ho, hc, hd⟩ h

theorem iterList (w : World) (l : Addr) (vs : List Value) : IterK w (lstIt l) vs.length (fun i v => vs[i]? = some v) (fun g => ListIn g l vs) where
  mono := fun _ _ k x => x.keeps k
  next := by
    intro A E O g L m rest s it i Q hl hi C h
    obtain ⟨o, ho, hc, hd⟩ := C.get (.head _)
    have hx : vs[i]? = some vs[i] := List.getElem?_eq_getElem hi
    refine wpAny_pyNext_list_item ⟨o, ho, hc, hd⟩ (hl.keeps C.keep).isList (by simpa using hx) (fun h' hit hs => h _ _ hx (C.upd .head hs ?_ s.toks))
    obtain ⟨o', e1, e2, e3⟩ := hit
    exact ⟨o', e1, e2, e3⟩
  stop := by
    intro A E O g L m rest s it Q hh hl C h
    obtain ⟨o, ho, hc, hd⟩ := C.get (.head _)
    exact wpAny_pyNext_list_end hh ⟨o, ho, hc, hd⟩ (hl.keeps C.keep).isList (by simp) (fun h' hs => h _ (C.loose (s' := { s with heap := h' }) (fun b o q e => hs b o (fun z => q (List.mem_singleton.mpr z)) e) rfl rfl))
  again := by
    intro A E O g L m rest s it i Q C h
    obtain ⟨o, ho, hc, hd⟩ := C.get (.head _)
    exact wpAny_pyIter_listiter ⟨o, ho, hc, hd⟩ h
section
variable {w : World} {A : Around} {E : Value → Shared → Prop} {O : OsState} {g : Heap} {L f : Addr} {m : Str → Option Value} {own own' : Own} {s : Shared}
theorem itStr {x : Str} {t : Tok} {Q : Value → Shared → Prop} (C : At O g L m own s) (h : ∀ a s', At O g L m ((a, strIt x t 0) :: own) s' → Keeps s.heap s'.heap → s.heap.get? a = none → Q (.ref a) s') : wpAny (Md w) A (pyIter (.str x t)) Q E s := by
  refine wpAny_pyIter_strU (h _ _ (C.push _ rfl ⟨rfl, rfl⟩) (fun b o e => Heap.get?_push_of_some _ e) ?_)
  cases e : s.heap.get? s.heap.objs.size with
  | none => rfl
  | some o => exact absurd (Heap.lt_size e) (Nat.lt_irrefl _)
theorem itL {l : Addr} {vs : List Value} {Q : Value → Shared → Prop} (C : At O g L m own s) (hl : ListIn s.heap l vs) (h : ∀ a s', At O g L m ((a, lstIt l 0) :: own) s' → Keeps s.heap s'.heap → s.heap.get? a = none → Q (.ref a) s') : wpAny (Md w) A (pyIter (.ref l)) Q E s := by
  refine wpAny_pyIter_list hl.isList (h _ _ (C.push _ rfl ⟨rfl, rfl⟩) (fun b o e => Heap.get?_push_of_some _ e) ?_)
  cases e : s.heap.get? s.heap.objs.size with
  | none => rfl
  | some o => exact absurd (Heap.lt_size e) (Nat.lt_irrefl _)
end
end
-- MLoop
section
section
variable {w : World} {A : Around} {E : Value → Shared → Prop} {O : OsState} {g : Heap} {L f : Addr} {m : Str → Option Value} {own own' : Own} {s : Shared}
noncomputable abbrev noteE (w : World) (A : Around) (env : Env) (R : Result → Shared → Prop) : Value → Shared → Prop := notedBy (Md w) A env fun e s' => R (.error e) s'
inductive FoNext (Inv : Nat → Heap → (Str → Option Value) → Own → Prop) (i : Nat) (O : OsState) (L : Addr) (p : Addr × OP) (s : Shared) : Prop
  | mk (g' : Heap) (m' : Str → Option Value) (own' : Own) (hI : Inv i g' m' own') (C : At O g' L m' (p :: own') s)
noncomputable abbrev foQ (Inv : Nat → Heap → (Str → Option Value) → Own → Prop) (i : Nat) (O : OsState) (L : Addr) (p : Addr × OP) (R : Result → Shared → Prop) : Flow → Shared → Prop := fun f s₂ => match f with
  | .next | .cont => FoNext Inv i O L p s₂
  | .brk => R (.ok .next) s₂
  | .ret v => R (.ok (.ret v)) s₂
theorem forR {IT : Nat → OP} {n : Nat} {item : Nat → Value → Prop} {Cond : Heap → Prop} (K : IterK w IT n item Cond) (hh : A.handled = none) {it : Addr} {env : Env} {target : Expr} {body : List Stmt} {R : Result → Shared → Prop}
    (Inv : Nat → Heap → (Str → Option Value) → Own → Prop) (hc : ∀ i g m own, Inv i g m own → Cond g)
    (turn : ∀ i g m own v s, i < n → item i v → Inv i g m own → At O g env.locals m ((it, IT (i + 1)) :: own) s →
      wpAny (Md w) A (letOwnedTupleGo target (.ref it) v) (fun _ s₀ => wpAny (Md w) A (assign target env v) (fun _ s₁ => wpAny (Md w) A (execs body env) (foQ Inv (i + 1) O env.locals (it, IT (i + 1)) R) (noteE w A env R) s₁) (noteE w A env R) s₀) (noteE w A env R) s)
    (fin : ∀ g m own s, Inv n g m own → At O g env.locals m own s → R (.ok .next) s)
    (h0 : Inv 0 g m own) (C : At O g env.locals m ((it, IT 0) :: own) s) : codeAny (Md w) A (.forLoop target (.ref it) body [] env) R s := by
  refine codeAny_forLoop_any (fun k s' => ∃ i g m own, k + i = n ∧ Inv i g m own ∧ At O g env.locals m ((it, IT i) :: own) s') ?_ n ⟨0, g, m, own, rfl, h0, C⟩
  rintro k s' ⟨i, g', m', own', hk, hI, C'⟩
  by_cases hi : i < n
  · refine K.next (hc _ _ _ _ hI) hi C' (fun v s₁ hv C₁ => ?_)
    refine wpAny_mono (turn i g' m' own' v s₁ hi hv hI C₁) (fun _ s₂ h₂ => wpAny_mono h₂ (fun _ s₃ h₃ => wpAny_mono h₃ (fun fl s₄ h₄ => ?_) fun _ _ e => e) fun _ _ e => e) fun _ _ e => e
    cases fl with
    | next => obtain ⟨g2, m2, o2, a, b⟩ := h₄; exact ⟨k - 1, by lia, i + 1, g2, m2, o2, by lia, a, b⟩
    | cont => obtain ⟨g2, m2, o2, a, b⟩ := h₄; exact ⟨k - 1, by lia, i + 1, g2, m2, o2, by lia, a, b⟩
    | brk => exact h₄
    | ret v => exact h₄
  · obtain rfl : i = n := by lia
    refine K.stop hh (hc _ _ _ _ hI) C' (fun s₁ C₁ => ?_)
    exact wpAny_execs_nil (fin _ _ _ _ hI C₁)

noncomputable def compEnv (scope : Scope) (Lc : Addr) (env : Env) : Env := { newEnv scope Lc env.globals [] env.qual none .none (some env) env.builtins with scope := scope }
end
end
-- MComp
section
section
variable {w : World} {A : Around} {E : Value → Shared → Prop} {O : OsState} {g : Heap} {L f : Addr} {m : Str → Option Value} {own own' : Own} {s : Shared}
inductive CompIn (w : World) (A : Around) (O : OsState) (env : Env) (elt target : Expr) (scope : Scope) (Q : Value → Shared → Prop) (IT : Nat → OP) (n : Nat) (item : Nat → Value → Prop) (Inv : Nat → Heap → List Value → Prop) (s₁ : Shared) (itv : Value) (s₂ : Shared) : Prop
  | mk (it : Addr) (e : itv = .ref it) (h0 : s₁.heap.get? it = none) (k : Keeps s₁.heap s₂.heap) (ho : ∃ o, s₂.heap.get? it = some o ∧ IT 0 o) (os : s₂.os = O) (gs : s₂.gens = #[])
    (turn : ∀ Lc i g m vs v acc s, i < n → item i v → Keeps s₁.heap g → Inv i g vs → At O g Lc m [(it, IT (i + 1)), (acc, lst vs)] s →
        wpAny (Md w) A (letOwnedTupleGo target (.ref it) v) (fun _ s₀ => wpAny (Md w) A (assign target (compEnv scope Lc env) v) (fun _ s₁ => wpAny (Md w) A (eval elt (compEnv scope Lc env)) (fun x s₂ =>
          ∃ g' m', Keeps g g' ∧ At O g' Lc m' [(it, IT (i + 1)), (acc, lst vs)] s₂ ∧ Inv (i + 1) g' (vs ++ [x])) (fun _ _ => False) s₁) (fun _ _ => False) s₀) (fun _ _ => False) s)
    (fin : ∀ acc vs s', Keeps s₁.heap s'.heap → s₁.heap.get? acc = none → ListIn s'.heap acc vs → Inv n s'.heap vs → s'.os = O → s'.gens = #[] → Q (.ref acc) s')
inductive CompOut (w : World) (A : Around) (E : Value → Shared → Prop) (O : OsState) (env : Env) (elt target : Expr) (scope : Scope) (Q : Value → Shared → Prop) (x : Value) (s₁ : Shared) : Prop
  | mk (IT : Nat → OP) (n : Nat) (item : Nat → Value → Prop) (Cond : Heap → Prop) (K : IterK w IT n item Cond) (Inv : Nat → Heap → List Value → Prop) (hmono : ∀ i g g' vs, Keeps g g' → Inv i g vs → Inv i g' vs) (hlen : ∀ i g vs, Inv i g vs → vs.length = i) (hsz : n ≤ sizeLine)
    (hI0 : Inv 0 s₁.heap []) (hC : Cond s₁.heap) (ho : s₁.os = O) (hg : s₁.gens = #[]) (h : wpAny (Md w) A (pyIter x) (CompIn w A O env elt target scope Q IT n item Inv s₁) E s₁)
theorem compR2 (hh : A.handled = none) {env : Env} {elt target iter : Expr} {scope : Scope} {pos : Pos} {Q : Value → Shared → Prop}
    (hfree : (scope.names.all fun x => decide (x.2 ≠ .free)) = true) (hcell : (scope.names.all fun x => decide (x.2 ≠ .cell)) = true) (hkind : scope.kind = .function) (hnames : (scope.names.all fun x => decide (x.2 = .local → scope.names.lookup x.1 = some .local)) = true) (hgen : scope.isGenerator = false)
    (hs : ∀ x, foldedSetIterable iter env x = pure x)
    (h : wpAny (Md w) A (eval iter env) (CompOut w A E O env elt target scope Q) E s) :
    wpAny (Md w) A (eval (.ListComp elt [⟨target, iter, [], 0⟩] scope pos) env) Q E s := by
  refine wpAny_ListComp (fun x hx => of_decide_eq_true (List.all_eq_true.mp hfree x hx)) hkind (fun x hx => of_decide_eq_true (List.all_eq_true.mp hnames x hx)) ?_ hs
  refine wpAny_mono h (fun x s₁ ⟨IT, n, item, Cond, K, Inv, hmono, hlen, hsz, hI0, hC, ho1, hg1, h₁⟩ => wpAny_mono h₁ (fun itv s₂ h₂ => ?_) fun _ _ e => e) fun _ _ e => e
  obtain ⟨it, rfl, hit, hk2, ⟨oi, hoi, hITo⟩, ho2, hg2, turn, fin⟩ := h₂
  refine wpAny_newObj_type ?_ (by show (0 : Nat) ≤ sizeLine; lia)
  refine wpAny_newFunctionEnv (fun x hx => of_decide_eq_true (List.all_eq_true.mp hcell x hx)) (by simp) (fun h' hns hsb => ?_) hkind
  -- the block's state
  have nA : s₂.heap.get? s₂.heap.objs.size = none := by
    cases e : s₂.heap.get? s₂.heap.objs.size with
    | none => rfl
    | some o => exact absurd (Heap.lt_size e) (Nat.lt_irrefl _)
  dsimp only at hns hsb ⊢
  generalize hacc : s₂.heap.objs.size = acc at *
  have hpush : ∀ b o, s₂.heap.get? b = some o → (s₂.heap.push { cls := .type "list", data := .seq #[] }).get? b = some o := fun b o e => Heap.get?_push_of_some _ e
  have haccp : (s₂.heap.push { cls := .type "list", data := .seq #[] }).get? acc = some { cls := .type "list", data := .seq #[] } := by rw [← hacc]; exact Heap.get?_push_size _ rfl
  have hsz2 : (s₂.heap.push { cls := .type "list", data := .seq #[] }).objs.size = acc + 1 := by rw [Heap.size_push, hacc]
  have nil0 : ([] : List Value).toArray = #[] := rfl
  rw [nil0] at hns hsb ⊢
  rw [hsz2] at hns hsb ⊢
  have low : ∀ b o, (s₂.heap.push { cls := .type "list", data := .seq #[] }).get? b = some o → h'.get? b = some o := fun b o e => by
    rw [hsb.2 b (by have := Heap.lt_size e; rw [hsz2] at this; exact Nat.ne_of_lt this)]; exact Heap.get?_push_of_some _ e
  have lt2 : ∀ b o, s₂.heap.get? b = some o → b < acc := fun b o e => hacc ▸ Heap.lt_size e
  have hitlt : it < acc := lt2 _ _ hoi
  have n1 : s₁.heap.get? acc = none := by
    cases e : s₁.heap.get? acc with
    | none => rfl
    | some o => exact absurd (lt2 _ _ (hk2 _ _ e)) (Nat.lt_irrefl _)
  have n2 : s₁.heap.get? (acc + 1) = none := by
    cases e : s₁.heap.get? (acc + 1) with
    | none => rfl
    | some o => exact absurd (lt2 _ _ (hk2 _ _ e)) (Nat.not_lt.mpr (Nat.le_succ _))
  have C0 : At O s₁.heap (acc + 1) (fun x => List.lookup x []) [(it, IT 0), (acc, lst [])] { s₂ with heap := h', toks := s₂.toks + 0 } := by
    refine ⟨fun b o e => low _ _ (hpush _ _ (hk2 b o e)), fun p hp => ?_, ?_, n2, fun p hp => ?_, ?_, ho2, hg2⟩
    · simp only [List.mem_cons, List.not_mem_nil, or_false] at hp
      rcases hp with rfl | rfl
      · exact ⟨oi, low _ _ (hpush _ _ hoi), hITo⟩
      · exact ⟨_, low _ _ haccp, lst_new [] 0⟩
    · simpa using hns
    · simp only [List.mem_cons, List.not_mem_nil, or_false] at hp
      rcases hp with rfl | rfl
      · exact ⟨hit, Nat.ne_of_lt (Nat.lt_succ_of_lt hitlt)⟩
      · exact ⟨n1, Nat.ne_of_lt (Nat.lt_succ_self _)⟩
    · simp only [List.map_cons, List.map_nil, List.nodup_cons, List.mem_singleton, List.not_mem_nil, not_false_eq_true, List.nodup_nil, and_true]
      exact Nat.ne_of_lt hitlt
  have R0 : ∀ s', (∃ vs g' m, Keeps s₁.heap g' ∧ Inv n g' vs ∧ At O g' (acc + 1) m [(acc, lst vs)] s') → ∃ m, s'.heap.Ns (acc + 1) m ∧ ∀ h2, Heap.SameBut (acc + 1) s'.heap h2 → Q (.ref acc) { s' with heap := h2 } := by
    rintro s' ⟨vs, g', m', hkg, hI, C⟩
    refine ⟨m', C.ns, fun h2 hs2 => ?_⟩
    have keepg : Keeps g' h2 := fun b o e => by rw [hs2.2 b (fun z => by rw [z, C.gL] at e; cases e)]; exact C.keep _ _ e
    refine fin acc vs _ (fun b o e => keepg _ _ (hkg _ _ e)) n1 ?_ (hmono _ _ _ _ keepg hI) C.os C.gens
    obtain ⟨o, e, q⟩ := C.get (.head _)
    exact ⟨o, (hs2.2 acc (Nat.ne_of_lt (Nat.lt_succ_self _))).trans e, q⟩
  have loop : codeAny (Md w) A (.compLoop (.ListComp elt [⟨target, iter, [], 0⟩] scope pos) 0 (.ref it) (.ref acc) (compEnv scope (acc + 1) env)) (fun r s' => ∃ m, s'.heap.Ns (acc + 1) m ∧ ∀ h2, Heap.SameBut (acc + 1) s'.heap h2 →
      match r with | .ok _ => Q (.ref acc) { s' with heap := h2 } | .error x => wpAny (Md w) A (passOn "comprehension.variables-let-go" x (compEnv scope (acc + 1) env)) Q E { s' with heap := h2 }) { s₂ with heap := h', toks := s₂.toks + 0 } := by
    refine codeAny_loop rfl (fun k s' => ∃ i g' m vs, k + i = n ∧ Keeps s₁.heap g' ∧ Inv i g' vs ∧ At O g' (acc + 1) m [(it, IT i), (acc, lst vs)] s') ?_ n ⟨0, s₁.heap, _, [], rfl, fun _ _ e => e, hI0, C0⟩
    rintro k s' ⟨i, g', m', vs, hk, hkg, hI, C⟩
    show wpAny _ _ ((compTurn (.ListComp elt [⟨target, iter, [], 0⟩] scope pos) 0 (.ref it) (.ref acc) (compEnv scope (acc + 1) env)).onRaise (fun x => do noteFrame x (compEnv scope (acc + 1) env); theTreesLotGoes x)) _ _ s'
    refine wpAny_noted ?_
    rw [show compTurn (.ListComp elt [⟨target, iter, [], 0⟩] scope pos) 0 (.ref it) (.ref acc) (compEnv scope (acc + 1) env) = _ from compTurn_list1 elt target iter scope pos (.ref it) (.ref acc) (compEnv scope (acc + 1) env)]
    refine wpAny_bind (wpAny_standAt (wpAny_bind ?_))
    by_cases hi : i < n
    · refine K.next (K.mono _ _ hkg hC) hi C (fun v s₃ hv C₃ => ?_)
      dsimp only
      refine wpAny_bind (wpAny_mono (turn _ i g' m' vs v acc s₃ hi hv hkg hI C₃) (fun _ s₄ h₄ => wpAny_bind (wpAny_mono h₄ (fun _ s₅ h₅ => wpAny_bind (wpAny_bind (wpAny_mono h₅ (fun x s₆ h₆ => ?_) fun _ _ z => z.elim))) fun _ _ z => z.elim)) fun _ _ z => z.elim)
      obtain ⟨g2, m2, hk2', C6, hI6⟩ := h₆
      refine wpAny_bind (appL C6 (.tail .head) (by rw [hlen _ _ _ hI]; lia) (fun s₇ C7 => wpAny_pure (wpAny_pure ⟨rfl, k - 1, by lia, i + 1, g2, m2, vs ++ [x], by lia, fun b o e => hk2' _ _ (hkg _ _ e), hI6, C7⟩)))
    · obtain rfl : i = n := by lia
      refine K.stop hh (K.mono _ _ hkg hC) C (fun s₃ C₃ => ?_)
      exact wpAny_pure (R0 s₃ ⟨vs, g', m', hkg, hI, C₃⟩)
  refine codeAny_compStart_list loop ?_
  exact K.again C0 loop
theorem compR {IT : Nat → OP} {n : Nat} {item : Nat → Value → Prop} {Cond : Heap → Prop} (K : IterK w IT n item Cond) (hh : A.handled = none) {env : Env} {elt target iter : Expr} {scope : Scope} {pos : Pos} {Q : Value → Shared → Prop}
    (hfree : (scope.names.all fun x => decide (x.2 ≠ .free)) = true) (hcell : (scope.names.all fun x => decide (x.2 ≠ .cell)) = true) (hkind : scope.kind = .function) (hnames : (scope.names.all fun x => decide (x.2 = .local → scope.names.lookup x.1 = some .local)) = true) (hgen : scope.isGenerator = false)
    (hs : ∀ x, foldedSetIterable iter env x = pure x)
    (Inv : Nat → Heap → List Value → Prop) (hmono : ∀ i g g' vs, Keeps g g' → Inv i g vs → Inv i g' vs) (hlen : ∀ i g vs, Inv i g vs → vs.length = i) (hsz : n ≤ sizeLine)
    (h : wpAny (Md w) A (eval iter env) (fun x s₁ => Inv 0 s₁.heap [] ∧ Cond s₁.heap ∧ s₁.os = O ∧ s₁.gens = #[] ∧ wpAny (Md w) A (pyIter x) (CompIn w A O env elt target scope Q IT n item Inv s₁) E s₁) E s) :
    wpAny (Md w) A (eval (.ListComp elt [⟨target, iter, [], 0⟩] scope pos) env) Q E s :=
  compR2 hh hfree hcell hkind hnames hgen hs (wpAny_mono h (fun _ _ ⟨hI0, hC, ho, hg, h1⟩ => ⟨IT, n, item, Cond, K, Inv, hmono, hlen, hsz, hI0, hC, ho, hg, h1⟩) fun _ _ e => e)
end
end
-- MRules3
section
section
variable {w : World} {A : Around} {E : Value → Shared → Prop} {O : OsState} {g : Heap} {L f : Addr} {m : Str → Option Value} {own own' : Own} {s : Shared} {a b : Int} {t u : Tok}
theorem modI {Q : Value → Shared → Prop} (C : At O g L m own s) (hb : b ≠ 0) (h : ∀ t s', At O g L m own s' → Q (.int (a.fmod b) t) s') : wpAny (Md w) A (binaryOp .Mod (.int a t) (.int b u)) Q E s := mod_int' hb (h _ _ (C.toks _))
theorem ifdivI {Q : Value → Shared → Prop} (C : At O g L m own s) (hb : b ≠ 0) (hs : b.natAbs < 1073741824) (h : ∀ t s', At O g L m own s' → Q (.int (a.fdiv b) t) s') : wpAny (Md w) A (inplaceOp .FloorDiv (.int a t) (.int b u)) Q E s :=
  ifloordiv_int hb (h _ _ (C.toks _)) (Or.inl (PyProof.noPylong_small hs))
theorem powI {Q : Value → Shared → Prop} (C : At O g L m own s) (hn : 0 ≤ b) (hs : (Builtin.Int.intBits a : Int) * b ≤ 2 ^ 27) (h : ∀ t s', At O g L m own s' → Q (.int (a ^ b.toNat) t) s') : wpAny (Md w) A (binaryOp .Pow (.int a t) (.int b u)) Q E s := pow_int hn hs (h _ _ (C.toks _))
theorem absI {Q : Value → Shared → Prop} (C : At O g L m own s) (h : ∀ t s', At O g L m own s' → Q (.int (a.natAbs : Nat) t) s') : wpAny (Md w) A (call (.builtin "abs") [.int a t]) Q E s := by
  refine call_abs_int (fun u tk => ?_)
  have e : (if a < 0 then -a else a) = (a.natAbs : Nat) := by split <;> lia
  rw [e]
  exact h _ _ (C.toks _)
theorem slListR {env : Env} {value : Expr} {lower upper : Option Expr} {p pos : Pos} {Q : Value → Shared → Prop}
    (h : wpAny (Md w) A (eval value env) (fun o s₁ => wpAny (Md w) A (evalPart lower env) (fun vl s₂ => wpAny (Md w) A (evalPart upper env) (fun vu s₃ =>
      ∃ l vs lo hi O g L m own, o = .ref l ∧ At O g L m own s₃ ∧ ListIn s₃.heap l vs ∧ vs.length ≤ sizeLine ∧ IsPart vl lo ∧ IsPart vu hi ∧
        ∀ D s', At O g L m ((D, lst (slicePick vs.toArray lo hi none).toList) :: own) s' → Keeps s₃.heap s'.heap → s₃.heap.get? D = none → Q (.ref D) s') E s₂) E s₁) E s)
    (ht : ∀ o r, letTemporaryGo value o r = pure () := by intro _ _; rfl) :
    wpAny (Md w) A (eval (.Subscript value (.Slice lower upper none p) pos) env) Q E s := by
  refine wpAny_Subscript_list_slice (wpAny_mono h (fun o s₁ h₁ => wpAny_mono h₁ (fun vl s₂ h₂ => wpAny_mono h₂ (fun vu s₃ h₃ => ?_) fun _ _ e => e) fun _ _ e => e) fun _ _ e => e) ht
  obtain ⟨l, vs, lo, hi, O, g, L, m, own, rfl, C, hl, hsz, p1, p2, k⟩ := h₃
  refine ⟨l, vs.toArray, lo, hi, rfl, hl.isList, by simpa using hsz, p1, p2, ?_⟩
  have C1 := C.push { cls := .type "slice", data := .fields #[vl, vu, .none] } rfl (P := fun _ => True) trivial
  have C2 := C1.push { cls := .type "list", data := .seq (slicePick vs.toArray lo hi none) } rfl (P := lst (slicePick vs.toArray lo hi none).toList) ⟨0, by simp⟩
  rw [Heap.size_push] at C2
  refine k _ _ (C2.drop ?_) (fun b o e => Heap.get?_push_of_some _ (Heap.get?_push_of_some _ e)) ?_
  · exact List.Sublist.cons₂ _ (List.sublist_cons_self _ _)
  · cases e : s₃.heap.get? (s₃.heap.objs.size + 1) with
    | none => rfl
    | some o => exact absurd (Heap.lt_size e) (Nat.not_lt.mpr (Nat.le_succ _))
end
end
-- MWhile
section
section
variable {w : World} {A : Around} {E : Value → Shared → Prop} {O : OsState} {g : Heap} {L f : Addr} {m : Str → Option Value} {own own' : Own} {s : Shared}
inductive WhNext (Inv : Nat → Heap → (Str → Option Value) → Own → Prop) (n : Nat) (O : OsState) (L : Addr) (s : Shared) : Prop
  | mk (k : Nat) (g' : Heap) (m' : Str → Option Value) (own' : Own) (h : k < n) (hI : Inv k g' m' own') (C : At O g' L m' own' s)
noncomputable abbrev whQ (Inv : Nat → Heap → (Str → Option Value) → Own → Prop) (n : Nat) (O : OsState) (L : Addr) (R : Result → Shared → Prop) : Flow → Shared → Prop := fun f s₃ => match f with
  | .next | .cont => WhNext Inv n O L s₃
  | .brk => R (.ok .next) s₃
  | .ret v => R (.ok (.ret v)) s₃
theorem whileR {env : Env} {test : Expr} {body : List Stmt} {R : Result → Shared → Prop} (Inv : Nat → Heap → (Str → Option Value) → Own → Prop)
    (turn : ∀ n g m own s, Inv n g m own → At O g env.locals m own s → wpAny (Md w) A (isTrue test env (eval test env)) (fun b s₂ =>
        if b = true then wpAny (Md w) A (execs body env) (whQ Inv n O env.locals R) (noteE w A env R) s₂
        else R (.ok .next) s₂) (noteE w A env R) s)
    (n : Nat) (h0 : Inv n g m own) (C : At O g env.locals m own s) : codeAny (Md w) A (.whileLoop test body [] env) R s := by
  refine codeAny_whileLoop (fun n s' => ∃ g m own, Inv n g m own ∧ At O g env.locals m own s') ?_ n ⟨g, m, own, h0, C⟩
  rintro n s' ⟨g', m', own', hI, C'⟩
  refine wpAny_mono (turn n g' m' own' s' hI C') (fun b s₂ h => ?_) fun _ _ e => e
  cases b with
  | true =>
    rw [if_pos rfl] at h ⊢
    refine wpAny_mono h (fun f s₃ h₃ => ?_) fun _ _ e => e
    cases f with
    | next => obtain ⟨k, a, b, c, d, e, e2⟩ := h₃; exact ⟨k, d, a, b, c, e, e2⟩
    | cont => obtain ⟨k, a, b, c, d, e, e2⟩ := h₃; exact ⟨k, d, a, b, c, e, e2⟩
    | brk => exact h₃
    | ret v => exact h₃
  | false =>
    rw [if_neg Bool.false_ne_true] at h ⊢
    exact wpAny_execs_nil h
end
end
-- MStr
section
noncomputable abbrev S (l : List Nat) : Str := ⟨l.toArray⟩
structure Lit (x : Str) (l : List Nat) : Prop where
  e : x = S l
theorem S_len (l : List Nat) : (S l).length = l.length := by simp [Str.length]
theorem S_inj {a b : List Nat} (h : S a = S b) : a = b := by injection h with h; simpa using h
theorem S_app (a b : List Nat) : S a ++ S b = S (a ++ b) := by show Str.append _ _ = _; simp [Str.append]
theorem S_beq (a b : List Nat) : (S a == S b) = decide (a = b) := by
  rw [Bool.eq_iff_iff, beq_iff_eq, decide_eq_true_eq]; exact ⟨S_inj, fun h => h ▸ rfl⟩
theorem At_eq {x y : Str} {n i : Nat} : StrLaws.At x y n i ↔ (i + y.length ≤ n ∧ Builtin.Str.subAt x y i = true) := Iff.rfl
noncomputable def findFrom (l : List Nat) (c i : Nat) : Int := match (l.drop i).findIdx? (· == c) with | some k => ((i + k : Nat) : Int) | none => -1
theorem find3_eq (l : List Nat) (c i : Nat) : Txt.find3 (S l) (S [c]) (i : Int) = findFrom l c i := by
  unfold Txt.find3
  have e : fromIndex (S l).length (i : Int) = i := by unfold fromIndex; rw [if_neg (by lia)]; lia
  rw [e]
  unfold findFrom
  rcases StrLaws.occ_head_from (S l) (S [c]) i 1 (Nat.le_refl _) with ⟨h0, hn⟩ | ⟨k, r, h0, h1, h2, h3⟩
  · rw [h0]
    have : (l.drop i).findIdx? (· == c) = none := by
      rw [List.findIdx?_eq_none_iff]
      intro x hx
      obtain ⟨j, hj⟩ := List.mem_iff_getElem?.mp hx
      rw [List.getElem?_drop] at hj
      have := hn (i + j) (by lia)
      rw [At_eq, StrLaws.subAt_one] at this
      have e2 : (S l).cps.toList[i + j]? = some x := by simpa using hj
      rw [e2] at this
      simp only [Option.some.injEq] at this
      simpa using this
    rw [this]
  · rw [h0]
    rw [At_eq, StrLaws.subAt_one] at h2
    have h2 : l[k]? = some c := by simpa using h2
    have : (l.drop i).findIdx? (· == c) = some (k - i) := by
      rw [List.findIdx?_eq_some_iff_getElem]
      have hk : k < l.length := (List.getElem?_eq_some_iff.mp h2).1
      refine ⟨by simp; lia, ?_, fun j hj => ?_⟩
      · rw [List.getElem_drop]
        have : l[i + (k - i)]'(by lia) = c := by
          have := (List.getElem?_eq_some_iff.mp h2).2
          rw [← this]; congr 1; lia
        simpa using this
      · rw [List.getElem_drop]
        have := h3 (i + j) (by lia) (by lia)
        rw [At_eq, StrLaws.subAt_one] at this
        have e2 : (S l).cps.toList[i + j]? = some (l[i + j]'(by lia)) := by simp
        rw [e2] at this
        simp only [Option.some.injEq] at this
        simpa using this
    rw [this]
    show (k : Int) = _
    simp only; lia
theorem slice_clip (x : Str) {a : Nat} {j : Int} (h : (x.length : Int) ≤ j) : Txt.slice x (some (a : Int)) (some j) = Txt.slice x (some (a : Int)) (some (x.length : Int)) := by
  have : Builtin.Str.strSliceIndices (some (a : Int)) (some j) 1 x.length = Builtin.Str.strSliceIndices (some (a : Int)) (some (x.length : Int)) 1 x.length := by
    have a1 : ¬ j < 0 := by lia
    have a2 : ¬ ((x.length : Int) < 0) := by lia
    have e1 : max (0 : Int) (min j (x.length : Int)) = x.length := by lia
    have e2 : max (0 : Int) (min (x.length : Int) (x.length : Int)) = x.length := by lia
    simp only [Builtin.Str.strSliceIndices, a1, a2, if_false, e1, e2, show ((1 : Int) > 0) = True from by simp, if_true]
  unfold Txt.slice
  rw [this]
theorem slice_nat (l : List Nat) {a b : Nat} (hab : a ≤ b) (ha : a ≤ l.length) : Txt.slice (S l) (some (a : Int)) (some (b : Int)) = S ((l.drop a).take (b - a)) := by
  rcases Nat.le_total b l.length with hb | hb
  · have := StrLaws.sliceText_nat (S l) hab (by rw [S_len]; exact hb)
    exact (show Txt.slice (S l) (some (a : Int)) (some (b : Int)) = _ from this)
  · rw [slice_clip _ (by rw [S_len]; lia)]
    have := StrLaws.sliceText_nat (S l) (a := a) (b := (S l).length) (by rw [S_len]; exact ha) (Nat.le_refl _)
    rw [S_len] at this ⊢
    refine Eq.trans (show Txt.slice (S l) (some (a : Int)) (some (l.length : Int)) = _ from this) ?_
    have e1 : (l.drop a).take (l.length - a) = l.drop a := List.take_of_length_le (by simp)
    have e2 : (l.drop a).take (b - a) = l.drop a := List.take_of_length_le (by simp; lia)
    simp [e1, e2]
section
variable {w : World} {A : Around} {E : Value → Shared → Prop} {O : OsState} {g : Heap} {L f : Addr} {m : Str → Option Value} {own own' : Own} {s : Shared} {a b : List Nat} {t u v : Tok}
theorem cL {env : Env} {x : Str} {l : List Nat} (hx : Lit x l) {k pos} {Q : Value → Shared → Prop} (C : At O g L m own s) (h : ∀ t s', At O g L m own s' → Q (.str (S l) t) s') : wpAny (Md w) A (eval (.Constant (.str x) k pos) env) Q E s :=
  cS C (fun t s' C' => hx.e ▸ h t s' C')
theorem addS {Q : Value → Shared → Prop} (C : At O g L m own s) (hsz : a.length + b.length ≤ sizeLine) (h : ∀ t s', At O g L m own s' → Q (.str (S (a ++ b)) t) s') : wpAny (Md w) A (binaryOp .Add (.str (S a) t) (.str (S b) u)) Q E s :=
  PyProof.Rows.add_str (fun t' tk => by rw [S_app]; exact h _ _ (C.toks tk)) (by rw [S_len, S_len]; exact hsz)
theorem iaddS {Q : Value → Shared → Prop} (C : At O g L m own s) (hsz : a.length + b.length ≤ sizeLine) (h : ∀ t s', At O g L m own s' → Q (.str (S (a ++ b)) t) s') : wpAny (Md w) A (inplaceOp .Add (.str (S a) t) (.str (S b) u)) Q E s :=
  PyProof.Rows.iadd_str (fun t' tk => by rw [S_app]; exact h _ _ (C.toks tk)) (by rw [S_len, S_len]; exact hsz)
theorem eqS {Q : Value → Shared → Prop} (h : Q (.bool (decide (a = b))) s) : wpAny (Md w) A (compareOp .Eq (.str (S a) t) (.str (S b) u)) Q E s := PyProof.Rows.eq_str (by rw [S_beq]; exact h)
theorem neS {Q : Value → Shared → Prop} (h : Q (.bool (!decide (a = b))) s) : wpAny (Md w) A (compareOp .NotEq (.str (S a) t) (.str (S b) u)) Q E s := PyProof.Rows.ne_str (by unfold bne; rw [S_beq]; exact h)
theorem inS {c : Nat} {Q : Value → Shared → Prop} (h : Q (.bool (decide (c ∈ b))) s) : wpAny (Md w) A (compareOp .In (.str (S [c]) t) (.str (S b) u)) Q E s := PyProof.Rows.in_str (by rw [StrLaws.found_one]; simpa using h)
theorem notInS {c : Nat} {Q : Value → Shared → Prop} (h : Q (.bool (!decide (c ∈ b))) s) : wpAny (Md w) A (compareOp .NotIn (.str (S [c]) t) (.str (S b) u)) Q E s := PyProof.Rows.notIn_str (by rw [StrLaws.found_one]; simpa using h)
theorem lenS {Q : Value → Shared → Prop} (C : At O g L m own s) (hsz : a.length ≤ sizeLine) (h : ∀ t s', At O g L m own s' → Q (.int (a.length : Nat) t) s') : wpAny (Md w) A (call (.builtin "len") [.str (S a) t]) Q E s :=
  PyProof.Rows.len_str (by rw [S_len]; unfold sizeLine at hsz; lia) (by rw [S_len]; exact h _ _ (C.toks _))
theorem idxS {value slice : Expr} {k : Nat} {Q : Value → Shared → Prop} (C : At O g L m own s) {c : Nat} (hc : a[k]? = some c) (hsz : a.length ≤ sizeLine) (h : ∀ t s', At O g L m own s' → Q (.str (S [c]) t) s')
    (hs : subscripted slice false (.str (S a) t) (.int (k : Nat) u) = operate [.str (S a) t, .int (k : Nat) u] (getItem (.str (S a) t) (.int (k : Nat) u)) := by with_unfolding_all rfl)
    (ht : ∀ r, letTemporaryGo value (.str (S a) t) r = pure () := by intro _; with_unfolding_all rfl) : wpAny (Md w) A (subscriptTail value slice (.str (S a) t) (.int (k : Nat) u)) Q E s := by
  have hk : k < a.length := (List.getElem?_eq_some_iff.mp hc).1
  refine itemS C (by lia) (by rw [S_len]; lia) (by rw [S_len]; unfold sizeLine at hsz; lia) (fun t s' C' => ?_) hs ht
  have e : (S a).cps.toList.getD (k : Int).toNat 0 = c := by simp [List.getD, hc]
  rw [e]; exact h t s' C'
theorem slS {env : Env} {value : Expr} {lower upper : Option Expr} {p pos : Pos} {Q : Value → Shared → Prop}
    (h : wpAny (Md w) A (eval value env) (fun o s₁ => wpAny (Md w) A (evalPart lower env) (fun vl s₂ => wpAny (Md w) A (evalPart upper env) (fun vu s₃ =>
      ∃ l t lo hi O g L m own, o = .str (S l) t ∧ At O g L m own s₃ ∧ l.length ≤ sizeLine ∧ IsPart vl lo ∧ IsPart vu hi ∧
        ∀ t s', At O g L m own s' → Q (.str (Txt.slice (S l) lo hi) t) s') E s₂) E s₁) E s)
    (ht : ∀ o r, letTemporaryGo value o r = pure () := by intro _ _; rfl) :
    wpAny (Md w) A (eval (.Subscript value (.Slice lower upper none p) pos) env) Q E s := by
  refine Subscript_Slice (wpAny_mono h (fun o s₁ h₁ => wpAny_Slice (wpAny_mono h₁ (fun vl s₂ h₂ => wpAny_mono h₂ (fun vu s₃ h₃ => wpAny_evalPart_none ?_) fun _ _ e => e) fun _ _ e => e)) fun _ _ e => e) ht
  obtain ⟨l, t, lo, hi, O, g, L, m, own, rfl, C, hsz, p1, p2, k⟩ := h₃
  have hk : KeptH (fun h' => At O g L m own { s₃ with heap := h' }) := fun h' ob C' => C'.grow (fun b o e => Heap.get?_push_of_some _ e) rfl rfl
  have fin : ∀ t' h' kk, At O g L m own { s₃ with heap := h' } → Q (.str (Txt.slice (S l) lo hi) t') { s₃ with heap := h', toks := kk } := fun t' h' kk C' => k _ _ (C'.toks kk)
  have hsz' : (S l).length ≤ sizeLine := by rw [S_len]; exact hsz
  cases p1 <;> cases p2
  · exact SBH.sliceItem_nn hk C (fun h' t' kk C' => fin t' h' kk C') hsz'
  · exact SBH.sliceItem_ns hk C (fun h' t' kk C' => fin t' h' kk C') hsz'
  · exact SBH.sliceItem_sn hk C (fun h' t' kk C' => fin t' h' kk C') hsz'
  · exact SBH.sliceItem_ss hk C (fun h' t' kk C' => fin t' h' kk C') hsz'
theorem findS {c k : Nat} {Q : Value → Shared → Prop} (C : At O g L m own s) (h : ∀ t s', At O g L m own s' → Q (.int (findFrom a c k) t) s') : wpAny (Md w) A (call (.builtin "str.find") [.str (S a) t, .str (S [c]) u, .int (k : Nat) v]) Q E s :=
  SC.find3 (by rw [find3_eq]; exact h _ _ (C.toks _))
end
end
-- MSeq2
section
noncomputable def rngP (a b : Nat) : OP := fun o => ∃ t u v, o = { cls := .type "range", data := .fields #[.int (a : Int) t, .int (b : Int) u, .int 1 v] }
noncomputable def rngIt (a n i : Nat) : OP := fun o => o = { cls := .type "range_iterator", data := .fields #[rawInt ((a + i : Nat) : Int), rawInt ((n : Int) - (i : Int)), rawInt 1] }
theorem iterRange (w : World) (a n : Nat) : IterK w (rngIt a n) n (fun i v => ∃ t, v = .int ((a + i : Nat) : Int) t) (fun _ => True) where
  mono := fun _ _ _ _ => trivial
  next := by
    intro A E O g L m rest s it i Q _ hi C h
    obtain ⟨o, ho, rfl⟩ := C.get (.head _)
    refine wpAny_pyNext_range_item ho (by lia) (fun h' hit hs => h _ _ ⟨_, rfl⟩ (C.upd .head hs ⟨_, hit, ?_⟩ _))
    have e1 : ((a + i : Nat) : Int) + 1 = ((a + (i + 1) : Nat) : Int) := by lia
    have e2 : (n : Int) - (i : Int) - 1 = (n : Int) - ((i + 1 : Nat) : Int) := by lia
    show _ = _
    rw [e1, e2]
  stop := by
    intro A E O g L m rest s it Q hh _ C h
    obtain ⟨o, ho, rfl⟩ := C.get (.head _)
    exact wpAny_pyNext_range_end hh ho (by lia) (fun h' hs => h _ (C.loose (s' := { s with heap := h' }) (fun b o q e => hs b o (fun z => q (List.mem_singleton.mpr z)) e) rfl rfl))
  again := by
    intro A E O g L m rest s it i Q C h
    obtain ⟨o, ho, rfl⟩ := C.get (.head _)
    exact wpAny_pyIter_slot ⟨_, ho, rfl⟩ F.slot_range_iterator_iter (wpAny_call_entry F.slot_range_iterator_iter ⟨_, ho, rfl⟩ F.entry_range_iterator_iter (wpAny_pure ⟨_, rfl, "range_iterator", _, ⟨_, ho, rfl⟩, F.slot_range_iterator_next.lookup, h⟩) (F.args_range_iterator_iter_1 _))
section
variable {w : World} {A : Around} {E : Value → Shared → Prop} {O : OsState} {g : Heap} {L f : Addr} {m : Str → Option Value} {own own' : Own} {s : Shared} {a b : Nat} {t u v : Tok} {l : Addr} {vs : List Value}
theorem rangeR {Q : Value → Shared → Prop} (C : At O g L m own s) (h : ∀ r s', At O g L m ((r, rngP a b) :: own) s' → Keeps s.heap s'.heap → Q (.ref r) s') : wpAny (Md w) A (call (.type "range") [.int (a : Int) t, .int (b : Int) u]) Q E s :=
  call_range_2 (h _ _ ((C.push _ rfl ⟨_, _, _, rfl⟩).toks _) (fun b o e => Heap.get?_push_of_some _ e))
theorem rangeR1 {Q : Value → Shared → Prop} (C : At O g L m own s) (h : ∀ r s', At O g L m ((r, rngP 0 b) :: own) s' → Keeps s.heap s'.heap → Q (.ref r) s') : wpAny (Md w) A (call (.type "range") [.int (b : Int) u]) Q E s :=
  call_range_1 (h _ _ ((C.push _ rfl ⟨_, _, _, rfl⟩).toks _) (fun b o e => Heap.get?_push_of_some _ e))
theorem itRng {r : Addr} {Q : Value → Shared → Prop} (C : At O g L m own s) (hr : (r, rngP a b) ∈ own) (ha : a < 2 ^ 62) (hb : b < 2 ^ 62) (h : ∀ i s', At O g L m ((i, rngIt a (b - a) 0) :: own) s' → Keeps s.heap s'.heap → Q (.ref i) s') : wpAny (Md w) A (pyIter (.ref r)) Q E s := by
  obtain ⟨o, ho, t, u, v, rfl⟩ := C.get hr
  refine wpAny_pyIter_range ho (small_one (by lia) (by lia) (by lia) (by lia)) (h _ _ (C.push _ rfl ?_) (fun b o e => Heap.get?_push_of_some _ e))
  have e : Builtin.Range.rangeSize (a : Int) (b : Int) 1 = ((b - a : Nat) : Int) - ((0 : Nat) : Int) := by rw [rangeSize_one]; split <;> lia
  show _ = _
  rw [e]; rfl
theorem idxL {value slice : Expr} {k : Nat} {x : Value} {Q : Value → Shared → Prop} (hl : ListIn s.heap l vs) (hx : vs[k]? = some x) (hk : vs.length ≤ sizeLine) (h : Q x s)
    (hs : subscripted slice false (.ref l) (.int (k : Nat) u) = operate [.ref l, .int (k : Nat) u] (getItem (.ref l) (.int (k : Nat) u)) := by with_unfolding_all rfl) (hg : ∀ r, letTemporaryGo value (.ref l) r = pure () := by intro _; with_unfolding_all rfl) :
    wpAny (Md w) A (subscriptTail value slice (.ref l) (.int (k : Nat) u)) Q E s := by
  have : k < vs.length := (List.getElem?_eq_some_iff.mp hx).1
  exact PyProof.Rows.item_listL hl.isList (by lia) (by unfold sizeLine at hk; lia) hx h hs hg
theorem idxLast {value slice : Expr} {x : Value} {Q : Value → Shared → Prop} (hl : ListIn s.heap l (vs ++ [x])) (hk : vs.length ≤ sizeLine) (h : Q x s)
    (hs : subscripted slice false (.ref l) (.int (-1) u) = operate [.ref l, .int (-1) u] (getItem (.ref l) (.int (-1) u)) := by with_unfolding_all rfl) (hg : ∀ r, letTemporaryGo value (.ref l) r = pure () := by intro _; with_unfolding_all rfl) :
    wpAny (Md w) A (subscriptTail value slice (.ref l) (.int (-1) u)) Q E s := by
  refine subscriptTail_builtin hl.isList.typeIs slot_list_getitem.lookup (wpAny_getItem_list_neg hl.isList (by lia) (by simp; lia) (by lia) ?_ h) hs hg
  have : ((-1 : Int) + ((vs ++ [x]).toArray.size : Int)).toNat = vs.length := by simp; lia
  rw [this]; simp
theorem lenL {Q : Value → Shared → Prop} (C : At O g L m own s) (hl : ListIn s.heap l vs) (hk : vs.length ≤ sizeLine) (h : ∀ t s', At O g L m own s' → s'.heap = s.heap → Q (.int (vs.length : Nat) t) s') : wpAny (Md w) A (call (.builtin "len") [.ref l]) Q E s :=
  PyProof.Rows.len_list hl.isList (by unfold sizeLine at hk; simp; lia) (by rw [List.size_toArray]; exact h _ _ (C.toks _) rfl)
theorem mExtL {D : Addr} {pl : Sem Bool} {Q : Value × List Value → Shared → Prop} (C : At O g L m own s) (h1 : (D, lst vs) ∈ own) (h : Q (.builtin "list.extend", [.ref D]) s) : wpAny (Md w) A (getMethod (.ref D) "extend" pl) Q E s := by
  obtain ⟨o, ho, n, ro⟩ := C.get h1
  exact PyProof.Rows.getMethod_list_of PySem.F.slot_list_extend PySem.F.type_list_extend (C.listIn h1).isList ⟨o, ho, by rw [ro]⟩ h
theorem extL {D b : Addr} {vs ws : List Value} {Q : Value → Shared → Prop} (C : At O g L m own s) (u : Upd D (lst vs) (lst (vs ++ ws)) own own') (hb : ListIn s.heap b ws) (hsz : vs.length + ws.length ≤ sizeLine) (h : ∀ s', At O g L m own' s' → Q .none s') :
    wpAny (Md w) A (call (.builtin "list.extend") [.ref D, .ref b]) Q E s := by
  obtain ⟨o, ho, n, rfl⟩ := C.get u.mem
  obtain ⟨o2, ho2, n2, rfl⟩ := hb
  have hsz' : vs.toArray.size + ws.toArray.size ≤ sizeLine := by simpa using hsz
  refine call_meets PySem.F.slot_list_extend ⟨_, ho, rfl⟩ PySem.F.entry_list_extend (PySem.F.args_list_extend_2 _ _) (AutoSeq1.list_extend_list_list_0 D vs.toArray n b ws.toArray n2 (extend_door hsz') (Nat.le_trans (Nat.le_add_right _ _) hsz')) ⟨ho, ho2, ?_⟩
  refine h _ (C.upd u (Heap.SameBut.update ..) ⟨_, Heap.get?_update_self _ ho rfl, ?_⟩ s.toks)
  exact ⟨_, by simp [Obj.mapSeq]; rfl⟩
theorem negI {a : Int} {Q : Value → Shared → Prop} (C : At O g L m own s) (h : ∀ t s', At O g L m own s' → Q (.int (-a) t) s') : wpAny (Md w) A (unaryOp .USub (.int a t)) Q E s := P.neg_int (h _ _ (C.toks _))
theorem truS {x : List Nat} {Q : Bool → Shared → Prop} (C : At O g L m own s) (hk : x.length ≤ sizeLine) (h : ∀ s', At O g L m own s' → Q (!decide (x = [])) s') : wpAny (Md w) A (truthy (.str (S x) t)) Q E s := by
  refine P.truthy_str (by rw [S_len]; unfold sizeLine at hk; lia) ?_
  have e : (((S x).length : Int) != 0) = !decide (x = []) := by
    rw [S_len]; cases x with
    | nil => rfl
    | cons a l => simp; lia
  rw [e]; exact h _ (C.toks _)
theorem truL {Q : Bool → Shared → Prop} (C : At O g L m own s) (hl : ListIn s.heap l vs) (hk : vs.length ≤ sizeLine) (h : ∀ s', At O g L m own s' → s'.heap = s.heap → Q (!decide (vs = [])) s') : wpAny (Md w) A (truthy (.ref l)) Q E s := by
  refine wpAny_truthy_list hl.isList (by unfold sizeLine at hk; simp; lia) ?_
  have e : (!vs.toArray.isEmpty) = !decide (vs = []) := by cases vs <;> simp
  rw [e]; exact h _ (C.toks _) rfl
theorem addN {Q : Value → Shared → Prop} (C : At O g L m own s) (h : ∀ t s', At O g L m own s' → Q (.int ((a + 1 : Nat) : Int) t) s') : wpAny (Md w) A (binaryOp .Add (.int (a : Nat) t) (.int 1 u)) Q E s := addI C h
theorem iaddN {Q : Value → Shared → Prop} (C : At O g L m own s) (h : ∀ t s', At O g L m own s' → Q (.int ((a + 1 : Nat) : Int) t) s') : wpAny (Md w) A (inplaceOp .Add (.int (a : Nat) t) (.int 1 u)) Q E s := iaddI C h
theorem ltN {Q : Value → Shared → Prop} (h : Q (.bool (decide (a < b))) s) : wpAny (Md w) A (compareOp .Lt (.int (a : Nat) t) (.int (b : Nat) u)) Q E s := ltI (by
  have e : decide ((a : Int) < b) = decide (a < b) := by simp
  rw [e]; exact h)
theorem geN {Q : Value → Shared → Prop} (h : Q (.bool (decide (b ≤ a))) s) : wpAny (Md w) A (compareOp .GtE (.int (a : Nat) t) (.int (b : Nat) u)) Q E s := geI (by
  have e : decide ((b : Int) ≤ a) = decide (b ≤ a) := by simp
  rw [e]; exact h)
theorem eqN {Q : Value → Shared → Prop} (h : Q (.bool (decide (a = b))) s) : wpAny (Md w) A (compareOp .Eq (.int (a : Nat) t) (.int (b : Nat) u)) Q E s := eqI (by
  have e : ((a : Int) == b) = decide (a = b) := by rw [Bool.eq_iff_iff]; simp; lia
  rw [e]; exact h)
theorem gtN {Q : Value → Shared → Prop} (h : Q (.bool (decide (b < a))) s) : wpAny (Md w) A (compareOp .Gt (.int (a : Nat) t) (.int (b : Nat) u)) Q E s := gtI (by
  have e : decide ((b : Int) < a) = decide (b < a) := by simp
  rw [e]; exact h)
end
end
-- MLits
section
theorem lit1 : Lit (Str.ofString "") [] := ⟨by kernel_rfl⟩
theorem lit2 : Lit (Str.ofString "\n") [10] := ⟨by kernel_rfl⟩
theorem lit3 : Lit (Str.ofString "\r") [13] := ⟨by kernel_rfl⟩
theorem lit4 : Lit (Str.ofString "\r\n") [13, 10] := ⟨by kernel_rfl⟩
theorem lit5 : Lit (Str.ofString " ") [32] := ⟨by kernel_rfl⟩
theorem lit6 : Lit (Str.ofString " \t\r\n") [32, 9, 13, 10] := ⟨by kernel_rfl⟩
theorem lit7 : Lit (Str.ofString "!") [33] := ⟨by kernel_rfl⟩
theorem lit8 : Lit (Str.ofString "\"") [34] := ⟨by kernel_rfl⟩
theorem lit9 : Lit (Str.ofString "#") [35] := ⟨by kernel_rfl⟩
theorem lit10 : Lit (Str.ofString "'") [39] := ⟨by kernel_rfl⟩
theorem lit11 : Lit (Str.ofString "'\"") [39, 34] := ⟨by kernel_rfl⟩
theorem lit12 : Lit (Str.ofString "();<>|&") [40, 41, 59, 60, 62, 124, 38] := ⟨by kernel_rfl⟩
theorem lit13 : Lit (Str.ofString "()[]{}+|^$\\.&~# \t\n\r\x0b\x0c") [40, 41, 91, 93, 123, 125, 43, 124, 94, 36, 92, 46, 38, 126, 35, 32, 9, 10, 13, 11, 12] := ⟨by kernel_rfl⟩
theorem lit14 : Lit (Str.ofString "(?!)") [40, 63, 33, 41] := ⟨by kernel_rfl⟩
theorem lit15 : Lit (Str.ofString "(?>.*?") [40, 63, 62, 46, 42, 63] := ⟨by kernel_rfl⟩
theorem lit16 : Lit (Str.ofString "(?s:") [40, 63, 115, 58] := ⟨by kernel_rfl⟩
theorem lit17 : Lit (Str.ofString ")") [41] := ⟨by kernel_rfl⟩
theorem lit18 : Lit (Str.ofString ")\\Z") [41, 92, 90] := ⟨by kernel_rfl⟩
theorem lit19 : Lit (Str.ofString "*") [42] := ⟨by kernel_rfl⟩
theorem lit20 : Lit (Str.ofString "*?'\"\\ [].!^#$\na&") [42, 63, 39, 34, 92, 32, 91, 93, 46, 33, 94, 35, 36, 10, 97, 38] := ⟨by kernel_rfl⟩
theorem lit21 : Lit (Str.ofString "-") [45] := ⟨by kernel_rfl⟩
theorem lit22 : Lit (Str.ofString ".") [46] := ⟨by kernel_rfl⟩
theorem lit23 : Lit (Str.ofString ".*") [46, 42] := ⟨by kernel_rfl⟩
theorem lit24 : Lit (Str.ofString "?") [63] := ⟨by kernel_rfl⟩
theorem lit25 : Lit (Str.ofString "I/O operation on closed file") [73, 47, 79, 32, 111, 112, 101, 114, 97, 116, 105, 111, 110, 32, 111, 110, 32, 99, 108, 111, 115, 101, 100, 32, 102, 105, 108, 101] := ⟨by kernel_rfl⟩
theorem lit26 : Lit (Str.ofString "No closing quotation") [78, 111, 32, 99, 108, 111, 115, 105, 110, 103, 32, 113, 117, 111, 116, 97, 116, 105, 111, 110] := ⟨by kernel_rfl⟩
theorem lit27 : Lit (Str.ofString "No escaped character") [78, 111, 32, 101, 115, 99, 97, 112, 101, 100, 32, 99, 104, 97, 114, 97, 99, 116, 101, 114] := ⟨by kernel_rfl⟩
theorem lit28 : Lit (Str.ofString "StringIO.read of a size that is no exact int") [83, 116, 114, 105, 110, 103, 73, 79, 46, 114, 101, 97, 100, 32, 111, 102, 32, 97, 32, 115, 105, 122, 101, 32, 116, 104, 97, 116, 32, 105, 115, 32, 110, 111, 32, 101, 120, 97, 99, 116, 32, 105, 110, 116] := ⟨by kernel_rfl⟩
theorem lit29 : Lit (Str.ofString "Z") [90] := ⟨by kernel_rfl⟩
theorem lit30 : Lit (Str.ofString "[") [91] := ⟨by kernel_rfl⟩
theorem lit31 : Lit (Str.ofString "[^") [91, 94] := ⟨by kernel_rfl⟩
theorem lit32 : Lit (Str.ofString "\\") [92] := ⟨by kernel_rfl⟩
theorem lit33 : Lit (Str.ofString "\\&~|") [92, 38, 126, 124] := ⟨by kernel_rfl⟩
theorem lit34 : Lit (Str.ofString "\\-") [92, 45] := ⟨by kernel_rfl⟩
theorem lit35 : Lit (Str.ofString "\\[") [92, 91] := ⟨by kernel_rfl⟩
theorem lit36 : Lit (Str.ofString "\\\\") [92, 92] := ⟨by kernel_rfl⟩
theorem lit37 : Lit (Str.ofString "]") [93] := ⟨by kernel_rfl⟩
theorem lit38 : Lit (Str.ofString "^") [94] := ⟨by kernel_rfl⟩
theorem lit39 : Lit (Str.ofString "^[") [94, 91] := ⟨by kernel_rfl⟩
theorem lit40 : Lit (Str.ofString "a") [97] := ⟨by kernel_rfl⟩
theorem lit41 : Lit (Str.ofString "abcdfeghijklmnopqrstuvwxyzABCDEFGHIJKLMNOPQRSTUVWXYZ0123456789_") [97, 98, 99, 100, 102, 101, 103, 104, 105, 106, 107, 108, 109, 110, 111, 112, 113, 114, 115, 116, 117, 118, 119, 120, 121, 122, 65, 66, 67, 68, 69, 70, 71, 72, 73, 74, 75, 76, 77, 78, 79, 80, 81, 82, 83, 84, 85, 86, 87, 88, 89, 90, 48, 49, 50, 51, 52, 53, 54, 55, 56, 57, 95] := ⟨by kernel_rfl⟩
theorem lit42 : Lit (Str.ofString "c") [99] := ⟨by kernel_rfl⟩
theorem lit43 : Lit (Str.ofString "illegal newline value: ") [105, 108, 108, 101, 103, 97, 108, 32, 110, 101, 119, 108, 105, 110, 101, 32, 118, 97, 108, 117, 101, 58, 32] := ⟨by kernel_rfl⟩
theorem lit44 : Lit (Str.ofString "latin1") [108, 97, 116, 105, 110, 49] := ⟨by kernel_rfl⟩
theorem lit45 : Lit (Str.ofString "s argument must not be None") [115, 32, 97, 114, 103, 117, 109, 101, 110, 116, 32, 109, 117, 115, 116, 32, 110, 111, 116, 32, 98, 101, 32, 78, 111, 110, 101] := ⟨by kernel_rfl⟩
theorem lit46 : Lit (Str.ofString "shlex: I see EOF in escape state") [115, 104, 108, 101, 120, 58, 32, 73, 32, 115, 101, 101, 32, 69, 79, 70, 32, 105, 110, 32, 101, 115, 99, 97, 112, 101, 32, 115, 116, 97, 116, 101] := ⟨by kernel_rfl⟩
theorem lit47 : Lit (Str.ofString "shlex: I see EOF in quotes state") [115, 104, 108, 101, 120, 58, 32, 73, 32, 115, 101, 101, 32, 69, 79, 70, 32, 105, 110, 32, 113, 117, 111, 116, 101, 115, 32, 115, 116, 97, 116, 101] := ⟨by kernel_rfl⟩
theorem lit48 : Lit (Str.ofString "shlex: I see punctuation in word state") [115, 104, 108, 101, 120, 58, 32, 73, 32, 115, 101, 101, 32, 112, 117, 110, 99, 116, 117, 97, 116, 105, 111, 110, 32, 105, 110, 32, 119, 111, 114, 100, 32, 115, 116, 97, 116, 101] := ⟨by kernel_rfl⟩
theorem lit49 : Lit (Str.ofString "shlex: I see whitespace in whitespace state") [115, 104, 108, 101, 120, 58, 32, 73, 32, 115, 101, 101, 32, 119, 104, 105, 116, 101, 115, 112, 97, 99, 101, 32, 105, 110, 32, 119, 104, 105, 116, 101, 115, 112, 97, 99, 101, 32, 115, 116, 97, 116, 101] := ⟨by kernel_rfl⟩
theorem lit50 : Lit (Str.ofString "shlex: I see whitespace in word state") [115, 104, 108, 101, 120, 58, 32, 73, 32, 115, 101, 101, 32, 119, 104, 105, 116, 101, 115, 112, 97, 99, 101, 32, 105, 110, 32, 119, 111, 114, 100, 32, 115, 116, 97, 116, 101] := ⟨by kernel_rfl⟩
theorem lit51 : Lit (Str.ofString "shlex: in state %r I see character: %r") [115, 104, 108, 101, 120, 58, 32, 105, 110, 32, 115, 116, 97, 116, 101, 32, 37, 114, 32, 73, 32, 115, 101, 101, 32, 99, 104, 97, 114, 97, 99, 116, 101, 114, 58, 32, 37, 114] := ⟨by kernel_rfl⟩
theorem lit52 : Lit (Str.ofString "shlex: popping token ") [115, 104, 108, 101, 120, 58, 32, 112, 111, 112, 112, 105, 110, 103, 32, 116, 111, 107, 101, 110, 32] := ⟨by kernel_rfl⟩
theorem lit53 : Lit (Str.ofString "shlex: raw token=") [115, 104, 108, 101, 120, 58, 32, 114, 97, 119, 32, 116, 111, 107, 101, 110, 61] := ⟨by kernel_rfl⟩
theorem lit54 : Lit (Str.ofString "shlex: raw token=EOF") [115, 104, 108, 101, 120, 58, 32, 114, 97, 119, 32, 116, 111, 107, 101, 110, 61, 69, 79, 70] := ⟨by kernel_rfl⟩
theorem lit55 : Lit (Str.ofString "shlex: token=") [115, 104, 108, 101, 120, 58, 32, 116, 111, 107, 101, 110, 61] := ⟨by kernel_rfl⟩
theorem lit56 : Lit (Str.ofString "shlex: token=EOF") [115, 104, 108, 101, 120, 58, 32, 116, 111, 107, 101, 110, 61, 69, 79, 70] := ⟨by kernel_rfl⟩
theorem lit57 : Lit (Str.ofString "~-./*?=") [126, 45, 46, 47, 42, 63, 61] := ⟨by kernel_rfl⟩
theorem lit58 : Lit (Str.ofString "ßàáâãäåæçèéêëìíîïðñòóôõöøùúûüýþÿÀÁÂÃÄÅÆÇÈÉÊËÌÍÎÏÐÑÒÓÔÕÖØÙÚÛÜÝÞ") [223, 224, 225, 226, 227, 228, 229, 230, 231, 232, 233, 234, 235, 236, 237, 238, 239, 240, 241, 242, 243, 244, 245, 246, 248, 249, 250, 251, 252, 253, 254, 255, 192, 193, 194, 195, 196, 197, 198, 199, 200, 201, 202, 203, 204, 205, 206, 207, 208, 209, 210, 211, 212, 213, 214, 216, 217, 218, 219, 220, 221, 222] := ⟨by kernel_rfl⟩
end
local macro_rules | `(tactic| walk_at "hout") => `(tactic| first | (rename Hid _ _ => hh; (with_reducible refine Hid.h hh _ _ ?_); clear hh; try (rename (_ → Shared → Prop) => qq; clear qq)) | with_reducible refine Hid.out (by with_reducible assumption) ?_ | (dsimp only [contQ, foQ, whQ]; with_reducible refine Hid.out (by with_reducible assumption) ?_))
local macro_rules | `(tactic| walk_at "ho") => `(tactic| (walk_at "hout"; repeat walk_at "hout"))
local macro_rules | `(tactic| walk_at "sz") => `(tactic| (show _ ≤ 16777216; first | walk_at "om" | (simp only [List.length_append, List.length_cons, List.length_nil]; lia)))
local macro_rules | `(tactic| walk_at "mms") => `(tactic| repeat' (first | walk_at "mm" | fail "no step"))
local macro_rules | `(tactic| walk_at $s:str) => wkGo s.getString
-- MBare
section
theorem none_of_keeps {g h : Heap} (k : Keeps g h) {b : Addr} (e : h.get? b = none) : g.get? b = none := by
  cases q : g.get? b with
  | none => rfl
  | some o => rw [k _ _ q] at e; cases e
inductive All2 {α β : Type} (R : α → β → Prop) : List α → List β → Prop
  | nil : All2 R [] []
  | cons {a : α} {b : β} {l : List α} {l' : List β} (h : R a b) (t : All2 R l l') : All2 R (a :: l) (b :: l')
theorem All2.length {α β : Type} {R : α → β → Prop} {l : List α} {l' : List β} (h : All2 R l l') : l.length = l'.length := by
  induction h with
  | nil => rfl
  | cons _ _ ih => simp only [List.length_cons, ih]
theorem All2.mono {α β : Type} {R R' : α → β → Prop} (k : ∀ a b, R a b → R' a b) {l : List α} {l' : List β} (h : All2 R l l') : All2 R' l l' := by
  induction h with
  | nil => exact .nil
  | cons h _ ih => exact .cons (k _ _ h) ih
theorem All2.append {α β : Type} {R : α → β → Prop} {l₁ : List α} {l₁' : List β} (h : All2 R l₁ l₁') {l₂ : List α} {l₂' : List β} (h' : All2 R l₂ l₂') : All2 R (l₁ ++ l₂) (l₁' ++ l₂') := by
  induction h with
  | nil => exact h'
  | cons h _ ih => exact .cons h ih
theorem All2.get {α β : Type} {R : α → β → Prop} {l : List α} {l' : List β} (h : All2 R l l') : ∀ {i : Nat} {a : α}, l[i]? = some a → ∃ b, l'[i]? = some b ∧ R a b := by
  induction h with
  | nil => intro i a e; simp at e
  | cons h _ ih =>
    intro i a e
    cases i with
    | zero => simp at e; subst e; exact ⟨_, by simp, h⟩
    | succ i => simpa using ih (by simpa using e)

noncomputable def PairN (h0 h : Heap) (v : Value) (p : Nat × Bool) : Prop := ∃ a t, v = .ref a ∧ h0.get? a = none ∧ ListIn h a [.str ⟨#[p.1]⟩ t, .bool p.2]
theorem PairN.keeps {h0 h h' : Heap} {v : Value} {p : Nat × Bool} (x : PairN h0 h v p) (k : Keeps h h') : PairN h0 h' v p := let ⟨a, t, e, n, l⟩ := x; ⟨a, t, e, n, l.keeps k⟩
theorem PairN.low {h0 h0' h h' : Heap} {v : Value} {p : Nat × Bool} (x : PairN h0 h v p) (k0 : Keeps h0' h0) (k : ∀ b o, h.get? b = some o → h0.get? b = none → h'.get? b = some o) : PairN h0' h' v p := by
  obtain ⟨a, t, e, n, o, ho, l⟩ := x
  exact ⟨a, t, e, none_of_keeps k0 n, o, k _ _ ho n, l⟩
noncomputable abbrev PairsN (h0 h : Heap) : List Value → List (Nat × Bool) → Prop := All2 (PairN h0 h)
theorem PairsN.keeps {h0 h h' : Heap} {vs : List Value} {ps : List (Nat × Bool)} (x : PairsN h0 h vs ps) (k : Keeps h h') : PairsN h0 h' vs ps := All2.mono (fun _ _ y => y.keeps k) x
theorem PairsN.low {h0 h0' h h' : Heap} {vs : List Value} {ps : List (Nat × Bool)} (x : PairsN h0 h vs ps) (k0 : Keeps h0' h0) (k : ∀ b o, h.get? b = some o → h0.get? b = none → h'.get? b = some o) : PairsN h0' h' vs ps := All2.mono (fun _ _ y => y.low k0 k) x

theorem spBare {w : World} {A : Around} {E : Value → Shared → Prop} {s : Shared} {x : Str} {t : Tok} {j : Nat} {Q : Value → Shared → Prop} (G : Gd w s.heap) (R : Rm j A) (hj : j ≤ 90) (hg : s.gens = #[]) (hx : x.length ≤ sizeLine)
    (h : ∀ a vs s', Keeps s.heap s'.heap → s'.os = s.os → s'.gens = #[] → s.heap.get? a = none → ListIn s'.heap a vs → PairsN s.heap s'.heap vs (x.cps.toList.map fun c => (c, false)) → Q (.ref a) s') : wpAny (Md w) A (call (.ref 796) [.str x t]) Q E s := by
  refine callK0 (binds := [("text", .str x t)]) G R (by walk_at "om") (lk796 w) (cd796 w) (BindsTo.of_eq rfl) rfl (by kernel_rfl) rfl rfl rfl hg ?_
  intro L s' C _
  have R' := R.deeper (envOf "_law_bare" (fnScope (stAt PG 34)) L 796 (.ref 795))
  walk_at "xs"
  walk_at "mms"
  refine compR (O := s.os) (iterStr w x t) R'.handled (by kernel_rfl) (by kernel_rfl) rfl (by kernel_rfl) rfl (by intro _; rfl) (fun i g vs => vs.length = i ∧ PairsN s.heap g vs ((x.cps.toList.take i).map fun c => (c, false))) (fun i g g' vs k ⟨a, b⟩ => ⟨a, b.keeps k⟩) (fun _ _ _ h => h.1) hx ?_
  walk_at "mms"
  rename At _ _ _ _ _ _ => C
  have ko : Keeps s.heap _ := C.keep
  refine ⟨⟨rfl, .nil⟩, trivial, C.os, C.gens, ?_⟩
  refine itStr C (fun it s2 C2 k2 f2 => ⟨it, rfl, f2, k2, C2.ow _ (.head _), C2.os, C2.gens, ?_, ?_⟩)
  · intro Lc i g m vs v acc s3 hi hv hk hI C3
    obtain ⟨c, t', hc, rfl⟩ := hv
    refine wpAny_pure ?_
    walk_at "mms"
    rename At _ _ _ _ _ _ => C
    have n0 := (C.gown _ (.head _)).1
    obtain ⟨g', kg, C', hl, _⟩ := C.freeze
    have hp : PairN s.heap g' (.ref _) (c, false) := ⟨_, t', rfl, none_of_keeps (fun b o q => hk _ _ (ko _ _ q)) n0, hl⟩
    refine ⟨_, _, kg, C', by simp [hI.1], ?_⟩
    have e : (x.cps.toList.take (i + 1)).map (fun c => (c, false)) = (x.cps.toList.take i).map (fun c => (c, false)) ++ [(c, false)] := by
      rw [List.take_succ, List.map_append]
      have : x.cps.toList[i]? = some c := by simpa using hc
      rw [this]; rfl
    rw [e]
    exact (hI.2.keeps kg).append (.cons hp .nil)
  · intro acc vs s3 hk hn hl hI ho hg3
    have e : x.cps.toList.take x.length = x.cps.toList := List.take_of_length_le (by show x.cps.toList.length ≤ x.cps.size; simp)
    rw [e] at hI
    walk_at "ho"
    exact h acc vs s3 (fun b o q => hk _ _ (C.keep _ _ q)) ho hg3 (by
      cases q : s.heap.get? acc with
      | none => rfl
      | some o => rw [C.keep _ _ q] at hn; cases hn) hl hI.2
end
-- MSign
section
noncomputable def tempt : List Nat := [42, 63, 39, 34, 92, 32, 91, 93, 46, 33, 94, 35, 36, 10, 97, 38]
noncomputable def signOf (k : Nat) : Nat := if k < 16 then tempt.getD k 0 else
  let c := k - 16
  let c := if 45 ≤ c then c + 1 else c
  if c < 55296 then c else c + 2048

theorem temptLit : (Str.ofString "*?'\"\\ [].!^#$\na&").cps.toList = tempt := by kernel_rfl

theorem sgn (c : Nat) : signOf (c + 16) = if (if 45 ≤ c then c + 1 else c) < 55296 then (if 45 ≤ c then c + 1 else c) else (if 45 ≤ c then c + 1 else c) + 2048 := by
  unfold signOf; rw [if_neg (Nat.not_lt.mpr (Nat.le_add_left 16 c)), Nat.add_sub_cancel]
theorem sg1 {c : Nat} {k : Int} (e : k = c) (a : 45 ≤ k) (b : k + 1 < 55296) : k + 1 = (signOf (c + 16) : Nat) := by
  subst e; rw [sgn, if_pos (Int.ofNat_le.mp a), if_pos (Int.ofNat_lt.mp b)]; rfl
theorem sg2 {c : Nat} {k : Int} (e : k = c) (a : 45 ≤ k) (b : ¬ k + 1 < 55296) : k + 1 + 2048 = (signOf (c + 16) : Nat) := by
  subst e; rw [sgn, if_pos (Int.ofNat_le.mp a), if_neg (fun h => b (Int.ofNat_lt.mpr h))]; rfl
theorem sg3 {c : Nat} {k : Int} (e : k = c) (a : ¬ 45 ≤ k) (b : k < 55296) : k = (signOf (c + 16) : Nat) := by
  subst e; rw [sgn, if_neg (fun h => a (Int.ofNat_le.mpr h)), if_pos (Int.ofNat_lt.mp b)]
theorem sg4 {c : Nat} {k : Int} (e : k = c) (a : ¬ 45 ≤ k) (b : ¬ k < 55296) : k + 2048 = (signOf (c + 16) : Nat) := by
  subst e; rw [sgn, if_neg (fun h => a (Int.ofNat_le.mpr h)), if_neg (fun h => b (Int.ofNat_lt.mpr h))]; rfl

theorem spSign {w : World} {A : Around} {E : Value → Shared → Prop} {s : Shared} {k : Int} {t : Tok} {j : Nat} {Q : Value → Shared → Prop} (G : Gd w s.heap) (R : Rm j A) (hj : j ≤ 90) (hg : s.gens = #[]) (h0 : 0 ≤ k) (h1 : k < 1112079)
    (h : ∀ t s', Keeps s.heap s'.heap → s'.os = s.os → s'.gens = #[] → Q (.str ⟨#[signOf k.toNat]⟩ t) s') : wpAny (Md w) A (call (.ref 791) [.int k t]) Q E s := by
  refine callK0 (binds := [("k", .int k t)]) G R (by walk_at "om") (lk791 w) (cd791 w) (BindsTo.of_eq rfl) rfl (by kernel_rfl) rfl rfl rfl hg ?_
  intro L s' C _
  walk_at "xs"
  walk_at "mms"
  refine br (fun hc => ?_) (fun hc => ?_)
  · walk_at "mm"
    walk_at "mm"
    walk_at "mm"
    walk_at "mm"
    walk_at "mm"
    rename At _ _ _ _ _ _ => C1
    generalize hl : ([42, 63, 39, 34, 92, 32, 91, 93, 46, 33, 94, 35, 36, 10, 97, 38] : List Nat) = tl
    have hl2 : tl = tempt := hl.symm
    have hlen : tl.length = 16 := by rw [hl2]; rfl
    refine itemS C1 h0 (by rw [S_len, hlen]; lia) (by rw [S_len, hlen]; decide) (fun t s2 C2 => ?_)
    rw [show (S tl).cps.toList = tempt by rw [hl2]]
    have e : signOf k.toNat = tempt.getD k.toNat 0 := by unfold signOf; rw [if_pos (by walk_at "om")]
    rw [← e]
    walk_at "ho"
    exact h _ _ C2.keep C2.os C2.gens
  · obtain ⟨c, hc0⟩ : ∃ c : Nat, k = ((c + 16 : Nat) : Int) := ⟨(k - 16).toNat, by clear h; lia⟩
    subst hc0
    have e : ((c + 16 : Nat) : Int) - 16 = c := Int.add_sub_cancel (c : Int) 16
    have b : c ≤ 1112062 := by clear h; lia
    clear hc h0 h1
    have fin : ∀ (d : Int) (s2 : Shared) (t : Tok), d = (signOf (c + 16) : Nat) → Keeps s.heap s2.heap → s2.os = s.os → s2.gens = #[] → Q (.str ⟨#[d.toNat]⟩ t) s2 := by
      intro d s2 t e k1 k2 k3; subst e; exact h t s2 k1 k2 k3
    clear h
    walk_at "mms"
    refine br (fun hd => ?_) (fun hd => ?_)
    · walk_at "mms"
      walk_at "mif"
      walk_at "mms"
      refine br (fun he => ?_) (fun he => ?_)
      · walk_at "mms"
        rename At _ _ _ _ _ _ => C1
        refine chrI C1 (by rw [e]; exact Int.natCast_nonneg (c + 1)) (by rw [e]; exact Int.ofNat_le.mpr (Nat.le_trans (Nat.succ_le_succ b) (by decide))) (fun t s2 C2 => ?_)
        walk_at "ho"
        exact fin _ s2 t (sg1 e hd he) C2.keep C2.os C2.gens
      · walk_at "mms"
        rename At _ _ _ _ _ _ => C1
        refine chrI C1 (by rw [e]; exact Int.natCast_nonneg (c + 1 + 2048)) (by rw [e]; exact Int.ofNat_le.mpr (Nat.le_trans (Nat.add_le_add_right b 2049) (by decide))) (fun t s2 C2 => ?_)
        walk_at "ho"
        exact fin _ s2 t (sg2 e hd he) C2.keep C2.os C2.gens
    · walk_at "mms"
      walk_at "mif"
      walk_at "mms"
      refine br (fun he => ?_) (fun he => ?_)
      · walk_at "mms"
        rename At _ _ _ _ _ _ => C1
        refine chrI C1 (by rw [e]; exact Int.natCast_nonneg c) (by rw [e]; exact Int.ofNat_le.mpr (Nat.le_trans b (by decide))) (fun t s2 C2 => ?_)
        walk_at "ho"
        exact fin _ s2 t (sg3 e hd he) C2.keep C2.os C2.gens
      · walk_at "mms"
        rename At _ _ _ _ _ _ => C1
        refine chrI C1 (by rw [e]; exact Int.natCast_nonneg (c + 2048)) (by rw [e]; exact Int.ofNat_le.mpr (Nat.le_trans (Nat.add_le_add_right b 2048) (by decide))) (fun t s2 C2 => ?_)
        walk_at "ho"
        exact fin _ s2 t (sg4 e hd he) C2.keep C2.os C2.gens
end
-- MFig
section
noncomputable def Figs (vs : List Value) : Prop := ∀ v ∈ vs, ∃ i t, v = Value.int i t ∧ 0 ≤ i ∧ i < 1112079
theorem Figs.snoc {vs : List Value} (h : Figs vs) {i : Int} {t : Tok} (h0 : 0 ≤ i) (h1 : i < 1112079) : Figs (vs ++ [.int i t]) := by
  intro v hv
  rcases List.mem_append.mp hv with hv | hv
  · exact h v hv
  · rw [List.mem_singleton.mp hv]; exact ⟨i, t, rfl, h0, h1⟩

theorem spFigures {w : World} {A : Around} {E : Value → Shared → Prop} {s : Shared} {l : Addr} {vs : List Value} {t u : Tok} {j : Nat} {Q : Value → Shared → Prop} (G : Gd w s.heap) (R : Rm j A) (hj : j ≤ 90) (hg : s.gens = #[])
    (hl : ListIn s.heap l vs) (hv : ∀ v ∈ vs, ∃ i t, v = Value.int i t) (hlen : vs.length ≤ 63)
    (h : ∀ a vs' s', Keeps s.heap s'.heap → s'.os = s.os → s'.gens = #[] → ListIn s'.heap a vs' → Figs vs' → vs'.length ≤ 60 → Q (.ref a) s') : wpAny (Md w) A (call (.ref 784) [.ref l, .int 1112079 t, .int 60 u]) Q E s := by
  refine callK0 (binds := [("script", .ref l), ("base", .int 1112079 t), ("most", .int 60 u)]) G R (by walk_at "om") (lk784 w) (cd784 w) (BindsTo.of_eq rfl) rfl (by kernel_rfl) rfl rfl rfl hg ?_
  intro L s' C _
  have R' := R.deeper (envOf "_law_figures" (fnScope (stAt PG 32)) L 784 (.ref 783))
  walk_at "xs"
  walk_at "mms"
  rename At _ _ _ _ _ _ => C
  rename_i fig _ _ _ _
  refine wpAny_For ?_ (by intro _; rfl)
  refine slListR ?_ (by intro _ _; rfl)
  walk_at "mms"
  rename At _ _ _ _ _ _ => C
  refine ⟨l, vs, none, some 60, _, _, _, _, _, rfl, C, hl.keeps C.keep, by unfold sizeLine; lia, .none, .int 60 u, ?_⟩
  intro D s3 C3 k3 _
  have e60 : (slicePick vs.toArray none (some 60) none).toList = vs.take 60 := by
    rw [show (some 60 : Option Int) = some ((60 : Nat) : Int) from rfl, slicePick_upto' vs.toArray 60]
  rw [e60] at C3
  obtain ⟨g', kg, C4, hD, _⟩ := C3.freeze
  have hD : ListIn g' D (vs.take 60) := hD
  have G' : Gd w g' := G.keeps kg
  refine itL C4 (hD.keeps C4.keep) ?_
  intro it s5 C5 k5 _
  have ev : ∀ v ∈ vs.take 60, ∃ i t, v = Value.int i t := fun v h => hv v (List.mem_of_mem_take h)
  walk_at "hr"
  refine forR (iterList w D (vs.take 60)) R'.handled (fun i g m own => g = g' ∧ (∃ vs', own = [(fig, lst vs')] ∧ Figs vs' ∧ vs'.length ≤ 60 * i) ∧ m "base" = some (.int 1112079 t) ∧ m "most" = some (.int 60 u) ∧ m "figures" = some (.ref fig)) (fun i g m own h => ?_) ?_ ?_ ⟨rfl, ⟨[], rfl, fun _ h => absurd h List.not_mem_nil, Nat.zero_le _⟩, ?_, ?_, ?_⟩ C5
  · rw [h.1]; exact hD
  · intro i g m own v s6 hi hv6 hI C6
    obtain ⟨rfl, ⟨vs', rfl, hF, hL⟩, m1, m2, m3⟩ := hI
    have hL60 : 60 * i ≤ 3600 := by
      have : (vs.take 60).length ≤ 60 := by simp; lia
      lia
    obtain ⟨a, ta, rfl⟩ := ev v (List.mem_of_getElem? hv6)
    walk_at "ht"
    refine wpAny_pure ?_
    walk_at "mms"
    rename At _ _ _ _ _ _ => C
    refine powI C (by decide) (by decide +kernel) (fun t1 s7 C7 => ?_)
    have hpos : (0 : Int) < 1112079 ^ Int.toNat 60 := by decide +kernel
    have hr0 := Int.fmod_nonneg_of_pos (a := (a.natAbs : Int)) hpos
    have hr1 := Int.fmod_lt_of_pos (a.natAbs : Int) hpos
    walk_at "mms"
    rename At _ _ _ _ _ _ => C
    refine wpAny_While ?_
    walk_at "hr"
    refine whileR (fun k g2 m own => g2 = g ∧ (∃ r tr vs2, m "rest" = some (.int r tr) ∧ 0 ≤ r ∧ r < 1112079 ^ k ∧ 1 ≤ k ∧ own = [(it, lstIt D (i + 1)), (fig, lst vs2)] ∧ Figs vs2 ∧ vs2.length + k ≤ 60 * i + 61) ∧ m "base" = some (.int 1112079 t) ∧ m "most" = some (.int 60 u) ∧ m "figures" = some (.ref fig)) ?_ 60 ?_ C
    rotate_left
    · refine ⟨rfl, ⟨_, _, vs' ++ [_], by walk_at "mm lk", hr0, hr1, by decide, rfl, ?_, ?_⟩, ?_, ?_, ?_⟩
      · exact hF.snoc (Int.fmod_nonneg_of_pos _ (by decide)) (Int.fmod_lt_of_pos _ (by decide))
      · simp only [List.length_append, List.length_cons, List.length_nil]; lia
      · walk_at "mm lk"
      · walk_at "mm lk"
      · walk_at "mm lk"
    · intro k g2 m2 own2 s8 hI8 C8
      obtain ⟨rfl, ⟨r, tr, vs2, hr, hr0, hr1, hk, rfl, hF2, hL2⟩, n1, n2, n3⟩ := hI8
      walk_at "hw"
      walk_at "mms"
      refine br (fun hc => ?_) (fun hc => ?_)
      · walk_at "mms"
        rename At _ _ _ _ _ _ => C
        have hk2 : 2 ≤ k := by
          rcases Nat.lt_or_ge 1 k with q | q
          · exact q
          · obtain rfl : k = 1 := by lia
            simp at hr1; lia
        refine ⟨k - 1, _, _, _, by walk_at "om", ⟨rfl, ⟨_, _, vs2 ++ [_], by walk_at "mm lk", ?_, ?_, by walk_at "om", rfl, ?_, ?_⟩, ?_, ?_, ?_⟩, C⟩
        · rw [Int.fdiv_eq_ediv_of_nonneg _ (by decide)]; exact Int.ediv_nonneg hr0 (by decide)
        · rw [Int.fdiv_eq_ediv_of_nonneg _ (by decide)]
          refine Int.ediv_lt_of_lt_mul (by decide) ?_
          rw [show (1112079 : Int) ^ (k - 1) * 1112079 = 1112079 ^ k from ?_]
          · exact hr1
          · rw [← Int.pow_succ]; congr 1; lia
        · exact hF2.snoc (Int.fmod_nonneg_of_pos _ (by decide)) (Int.fmod_lt_of_pos _ (by decide))
        · simp only [List.length_append, List.length_cons, List.length_nil]; lia
        · walk_at "mm lk"
        · walk_at "mm lk"
        · walk_at "mm lk"
      · walk_at "mms"
        refine ⟨_, _, [(fig, lst vs2)], ⟨rfl, ⟨vs2, rfl, hF2, by walk_at "om"⟩, n1, n2, n3⟩, ?_⟩
        assumption
  · intro g m own s6 hI C6
    obtain ⟨rfl, ⟨vs', rfl, hF, hL⟩, m1, m2, m3⟩ := hI
    have hL60 : vs'.length ≤ 3600 := by
      have : (vs.take 60).length ≤ 60 := by simp; lia
      lia
    walk_at "mms"
    refine slListR ?_ (by intro _ _; rfl)
    walk_at "mms"
    rename At _ _ _ _ _ _ => C
    refine ⟨fig, vs', none, some 60, _, _, _, _, _, rfl, C, C.listIn (.head _), by unfold sizeLine; lia, .none, .int 60 u, ?_⟩
    intro D2 s9 C9 k9 _
    have e60 : (slicePick vs'.toArray none (some 60) none).toList = vs'.take 60 := by
      rw [show (some 60 : Option Int) = some ((60 : Nat) : Int) from rfl, slicePick_upto' vs'.toArray 60]
    rw [e60] at C9
    walk_at "ho"
    refine h D2 _ s9 (fun b o e => C9.keep _ _ (kg _ _ e)) C9.os C9.gens (C9.listIn (.head _)) (fun v hv => hF v (List.mem_of_mem_take hv)) (by simp; lia)
  · walk_at "mm lk"
  · walk_at "mm lk"
  · walk_at "mm lk"
end
-- MSeq3
section
noncomputable def SV (v : Value) (x : List Nat) : Prop := ∃ t, v = .str (S x) t
noncomputable abbrev StrsV : List Value → List (List Nat) → Prop := All2 SV
theorem StrsV.all {vs ws : List Value} {xs ys : List (List Nat)} (h : StrsV vs xs) (h' : StrsV ws ys) (A : Around) (s : Shared) (hl : xs.length = ys.length) :
    ∃ e : Nat → Bool, (∀ j (h1 : j < vs.toArray.size) (h2 : j < ws.toArray.size), SeqAt.EqAt A s vs.toArray[j] ws.toArray[j] (e j)) ∧ (List.range vs.toArray.size).all e = decide (xs = ys) := by
  refine ⟨fun j => decide (xs[j]? = ys[j]?), fun j h1 h2 => ?_, ?_⟩
  · have h1' : j < vs.length := by simpa using h1
    have h2' : j < ws.length := by simpa using h2
    obtain ⟨x, ex, t, e1⟩ := h.get (List.getElem?_eq_getElem h1')
    obtain ⟨y, ey, u, e2⟩ := h'.get (List.getElem?_eq_getElem h2')
    have : SeqAt.EqAt A s (.str (S x) t) (.str (S y) u) (decide (xs[j]? = ys[j]?)) := by
      have q := (PyProof.Rows.eqGives_str (S x) (S y) t u).at A s
      rw [S_beq] at q
      rw [ex, ey]
      have e : decide (some x = some y) = decide (x = y) := by simp
      rw [e]; exact q
    rw [List.getElem_toArray, List.getElem_toArray, e1, e2]; exact this
  · rw [List.size_toArray, h.length, Bool.eq_iff_iff, List.all_eq_true, decide_eq_true_eq]
    constructor
    · intro q
      refine List.ext_getElem? fun j => ?_
      by_cases hj : j < xs.length
      · exact of_decide_eq_true (q j (List.mem_range.mpr hj))
      · rw [List.getElem?_eq_none (by lia), List.getElem?_eq_none (by lia)]
    · rintro rfl j _; simp
section
variable {w : World} {A : Around} {E : Value → Shared → Prop} {O : OsState} {g : Heap} {L f : Addr} {m : Str → Option Value} {own own' : Own} {s : Shared} {l b : Addr} {vs ws : List Value}
theorem addL {Q : Value → Shared → Prop} (C : At O g L m own s) (hl : ListIn s.heap l vs) (hb : ListIn s.heap b ws) (hsz : vs.length + ws.length ≤ sizeLine)
    (h : ∀ a s', At O g L m ((a, lst (vs ++ ws)) :: own) s' → Q (.ref a) s') : wpAny (Md w) A (binaryOp .Add (.ref l) (.ref b)) Q E s := by
  obtain ⟨o, ho, n, rfl⟩ := hl
  obtain ⟨o2, ho2, n2, rfl⟩ := hb
  exact P.add_list ho ho2 (h _ _ (C.push _ rfl ⟨0, by simp⟩)) (by simpa using hsz)
theorem neL0 {Q : Value → Shared → Prop} (hl : ListIn s.heap l vs) (hb : ListIn s.heap b []) (hu : A.units < cLine) (h : Q (.bool (!decide (vs = []))) s) : wpAny (Md w) A (compareOp .NotEq (.ref l) (.ref b)) Q E s := by
  by_cases e : vs = []
  · subst e
    exact SeqAt.RcNeAt.lists hl.isList hb.isList rfl hu (e := fun _ => true) (fun j h1 _ => absurd h1 (Nat.not_lt_zero _)) _ _ E Q (by simpa using h)
  · exact SeqAt.RcNeAt.lists_lengths hl.isList hb.isList (by cases vs <;> simp at e ⊢) hu _ _ E Q (by simpa [e] using h)
theorem neLS {xs ys : List (List Nat)} {Q : Value → Shared → Prop} (hl : ListIn s.heap l vs) (hb : ListIn s.heap b ws) (h1 : StrsV vs xs) (h2 : StrsV ws ys) (hu : A.units < cLine) (h : Q (.bool (!decide (xs = ys))) s) : wpAny (Md w) A (compareOp .NotEq (.ref l) (.ref b)) Q E s := by
  by_cases e : xs.length = ys.length
  · obtain ⟨f, he, ha⟩ := h1.all h2 A.in1 s e
    exact SeqAt.RcNeAt.lists hl.isList hb.isList (by simp [h1.length, h2.length, e]) hu he _ _ E Q (by rw [ha]; exact h)
  · refine SeqAt.RcNeAt.lists_lengths hl.isList hb.isList (by simp [h1.length, h2.length, e]) hu _ _ E Q ?_
    rw [decide_eq_false (fun q => e (by rw [q]))] at h
    exact h
end
end
-- MStrands
section
noncomputable abbrev Mk := Nat × Bool
inductive Tk | star | qm | one (c : Nat) | set (neg : Bool) (body : List Nat)
noncomputable def skipOf (r : List Nat) : Nat := if r.take 1 = [33] then 1 else 0
noncomputable def lexTok (c : Nat) (r : List Nat) : Tk × List Nat :=
  if c = 42 then (.star, r) else if c = 63 then (.qm, r) else if c = 91 then
    match (r.drop (skipOf r + 1)).findIdx? (· == 93) with
    | some q => (.set (r.take 1 = [33]) ((r.drop (skipOf r)).take (q + 1)), r.drop (skipOf r + 1 + q + 1))
    | none => (.one 91, r)
  else (.one c, r)
theorem lexTok_len (c : Nat) (r : List Nat) : (lexTok c r).2.length ≤ r.length := by
  unfold lexTok
  repeat' split
  all_goals simp
noncomputable def toks : List Nat → List Tk
  | [] => []
  | c :: r => (lexTok c r).1 :: toks (lexTok c r).2
termination_by l => l.length
decreasing_by have := lexTok_len c r; simp; lia
theorem toks_cons (c : Nat) (r : List Nat) : toks (c :: r) = (lexTok c r).1 :: toks (lexTok c r).2 := by rw [toks]
noncomputable def specials : List Nat := [40, 41, 91, 93, 123, 125, 43, 124, 94, 36, 92, 46, 38, 126, 35, 32, 9, 10, 13, 11, 12]
noncomputable def bare (l : List Nat) : List Mk := l.map fun c => (c, false)
noncomputable def slashedAt (neg : Bool) (i c : Nat) : Bool := decide (c ∈ [92, 38, 126, 124]) || (!neg && decide (i = 0) && decide (c ∈ [94, 91]))
noncomputable def bodyMarks (neg : Bool) (b : List Nat) : List Mk := b.mapIdx fun i c => (c, slashedAt neg i c)
noncomputable def marksOf : Tk → List Mk
  | .star => []
  | .qm => [(46, false)]
  | .one c => [(c, decide (c ∈ specials))]
  | .set neg b => bare (if neg then [91, 94] else [91]) ++ bodyMarks neg b ++ bare [93]
noncomputable def stepS (x : List (List Mk) × List Mk) : Tk → List (List Mk) × List Mk
  | .star => (x.1 ++ [x.2], [])
  | t => (x.1, x.2 ++ marksOf t)
noncomputable def strandsOf (l : List Nat) : List (List Mk) := let x := (toks l).foldl stepS ([], []); x.1 ++ [x.2]
noncomputable def StrandN (h0 h : Heap) (v : Value) (ms : List Mk) : Prop := ∃ a vs, v = .ref a ∧ h0.get? a = none ∧ ListIn h a vs ∧ PairsN h0 h vs ms
theorem StrandN.keeps {h0 h h' : Heap} {v : Value} {p : List Mk} (x : StrandN h0 h v p) (k : Keeps h h') : StrandN h0 h' v p := let ⟨a, t, e, n, l, r⟩ := x; ⟨a, t, e, n, l.keeps k, PairsN.keeps r k⟩
theorem StrandN.low {h0 h0' h h' : Heap} {v : Value} {p : List Mk} (x : StrandN h0 h v p) (k0 : Keeps h0' h0) (k : ∀ b o, h.get? b = some o → h0.get? b = none → h'.get? b = some o) : StrandN h0' h' v p := by
  obtain ⟨a, t, e, n, ⟨o, ho, l⟩, r⟩ := x
  exact ⟨a, t, e, none_of_keeps k0 n, ⟨o, k _ _ ho n, l⟩, PairsN.low r k0 k⟩
noncomputable abbrev StrandsN (h0 h : Heap) : List Value → List (List Mk) → Prop := All2 (StrandN h0 h)

inductive StrInv (s : Shared) (p : List Nat) (t : Tok) (S0 : Addr) (n : Nat) (g : Heap) (m : Str → Option Value) (own : Own) : Prop
  | mk (i : Nat) (pre : List Tk) (ds : List (List Mk)) (cur : Addr) (cs : List Value) (ms : List Mk) (olds : List Value) (tk : Tok) (e : n = p.length - i) (hi : i ≤ p.length) (hT : toks p = pre ++ toks (p.drop i)) (hF : pre.foldl stepS ([], []) = (ds, ms)) (kg : Keeps s.heap g)
    (eo : own = [(S0, lst (olds ++ [.ref cur])), (cur, lst cs)]) (hS : StrandsN s.heap g olds ds) (hP : PairsN s.heap g cs ms) (m1 : m "k" = some (.int (i : Nat) tk)) (m2 : m "pattern" = some (.str (S p) t)) (m3 : m "strands" = some (.ref S0)) (l1 : olds.length ≤ i) (l2 : cs.length ≤ i)
inductive StrFor (s : Shared) (g3 : Heap) (p : List Nat) (t : Tok) (S0 cur : Addr) (olds : List Value) (ms : List Mk) (neg : Bool) (body : List Nat) (i fi q jj : Nat) (g : Heap) (m : Str → Option Value) (own : Own) : Prop
  | mk (kg : Keeps g3 g) (cs' : List Value) (tk te : Tok) (eo : own = [(S0, lst (olds ++ [.ref cur])), (cur, lst cs')]) (hP : PairsN s.heap g cs' (ms ++ bare (if neg then [91, 94] else [91]) ++ (bodyMarks neg body).take jj))
    (m1 : m "k" = some (.int ((i + 1 : Nat) : Int) tk)) (m2 : m "pattern" = some (.str (S p) t)) (m3 : m "strands" = some (.ref S0)) (m4 : m "end" = some (.int ((fi + 1 + q : Nat) : Int) te)) (l : cs'.length ≤ fi + jj)
theorem spStrands {w : World} {A : Around} {E : Value → Shared → Prop} {s : Shared} {p : List Nat} {t : Tok} {j : Nat} {Q : Value → Shared → Prop} (G : Gd w s.heap) (R : Rm j A) (hj : j ≤ 80) (hg : s.gens = #[]) (hx : p.length ≤ 100000)
    (h : ∀ a vs s', Keeps s.heap s'.heap → s'.os = s.os → s'.gens = #[] → s.heap.get? a = none → ListIn s'.heap a vs → StrandsN s.heap s'.heap vs (strandsOf p) → Q (.ref a) s') : wpAny (Md w) A (call (.ref 803) [.str (S p) t]) Q E s := by
  refine callK0 (binds := [("pattern", .str (S p) t)]) G R (by walk_at "om") (lk803 w) (cd803 w) (BindsTo.of_eq rfl) rfl (by kernel_rfl) rfl rfl rfl hg ?_
  intro L s' C _
  have R' := R.deeper (envOf "_law_strands" (fnScope (stAt PG 35)) L 803 (.ref 802))
  walk_at "xs"
  walk_at "mms"
  rename At _ _ _ _ _ _ => C
  rename_i cur _ S0 _ _ _ _ _ _ _ _ _
  refine wpAny_While ?_
  walk_at "hr"
  refine whileR (StrInv s p t S0) ?_ p.length ?_ C
  · intro n g m own s2 hI C2
    obtain ⟨i, pre, ds, cur, cs, ms, olds, tk, rfl, hi, hT, hF, kg, rfl, hS, hP, m1, m2, m3, l1, l2⟩ := hI
    have Gg := G.keeps kg
    walk_at "hw"
    walk_at "mms"
    refine br (fun hc => ?_) (fun hc => ?_)
    · obtain ⟨c, hc⟩ : ∃ c, p[i]? = some c := ⟨_, List.getElem?_eq_getElem hc⟩
      have hpd : p.drop i = c :: p.drop (i + 1) := by rw [List.drop_eq_getElem?_toList_append, hc]; rfl
      generalize hr : p.drop (i + 1) = r at *
      walk_at "mms"
      rename At _ _ _ _ _ _ => C
      refine cutAt C (fun v => ∃ t, v = .int ((i + 1 + skipOf r : Nat) : Int) t) ?_ ?_
      · walk_at "hx"
        walk_at "mif"
        walk_at "mms"
        refine slS ?_ (by intro _ _; rfl)
        walk_at "mms"
        rename At _ _ _ _ _ _ => C
        refine ⟨p, _, some ((i + 1 : Nat) : Int), some ((i + 1 + 1 : Nat) : Int), _, _, _, _, _, rfl, C, by walk_at "sz", .int _ _, .int _ _, ?_⟩
        rw [slice_nat p (by walk_at "om") (by have := (List.getElem?_eq_some_iff.mp hc).1; lia), hr, show i + 1 + 1 - (i + 1) = 1 by lia]
        clear C
        intro _ _ _
        walk_at "mms"
        refine br (fun hb => ?_) (fun hb => ?_)
        · walk_at "mms"
          exact ⟨⟨_, by rw [show skipOf r = 1 from if_pos hb]⟩, by assumption⟩
        · walk_at "mms"
          exact ⟨⟨_, by rw [show skipOf r = 0 from if_neg hb]⟩, by assumption⟩
      · clear C
        rintro _ _ ⟨t1, rfl⟩ C
        walk_at "mms"
        rename At _ _ _ _ _ _ => C
        refine cutAt C (fun v => ∃ t, v = .int (if c = 91 then findFrom p 93 (i + 1 + skipOf r + 1) else -1) t) ?_ ?_
        · walk_at "hx"
          walk_at "mif"
          walk_at "mms"
          refine br (fun hb => ?_) (fun hb => ?_)
          · walk_at "mms"
            exact ⟨⟨_, by rw [if_pos (by simpa using hb)]⟩, by assumption⟩
          · walk_at "mms"
            exact ⟨⟨_, by rw [if_neg (by simpa using hb)]⟩, by assumption⟩
        · clear C
          rintro _ _ ⟨t1, rfl⟩ C
          walk_at "mms"
          refine br (fun hb => ?_) (fun hb => ?_)
          · -- a star
            obtain rfl : c = 42 := by simpa using hb
            walk_at "mms"
            rename At _ _ _ _ _ _ => C
            have n0 := (C.gown _ (.tail _ (.tail _ (.head _)))).1
            obtain ⟨g2, kg2, C, hl, _⟩ := C.h3.freeze
            have n1 := (C.gown _ (.head _)).1
            have lx : lexTok 42 r = (.star, r) := if_pos rfl
            refine ⟨p.length - (i + 1), _, _, _, by have := (List.getElem?_eq_some_iff.mp hc).1; lia, ⟨i + 1, pre ++ [.star], ds ++ [ms], _, [], [], olds ++ [.ref cur], _, rfl, (List.getElem?_eq_some_iff.mp hc).1, ?_, ?_, fun b o e => kg2 _ _ (kg _ _ e), rfl, ?_, .nil, by walk_at "mm lk", ?_, ?_, ?_, ?_⟩, C.h2⟩
            · rw [hT, hpd, toks_cons, lx, hr]; simp
            · rw [List.foldl_append, hF]; rfl
            · exact (hS.mono fun _ _ y => y.keeps kg2).append (.cons ⟨cur, cs, rfl, none_of_keeps kg n0, hl, PairsN.keeps hP kg2⟩ .nil)
            · walk_at "mm lk"
            · walk_at "mm lk"
            · simp; lia
            · simp
          · have hc42 : c ≠ 42 := by simpa using hb
            walk_at "mms"
            refine br (fun hb => ?_) (fun hb => ?_)
            · -- a question mark
              obtain rfl : c = 63 := by simpa using hb
              walk_at "mms"
              rename At _ _ _ _ _ _ => C
              have n0 := (C.gown _ (.head _)).1
              obtain ⟨g2, kg2, C, hl, _⟩ := C.freeze
              have lx : lexTok 63 r = (.qm, r) := by unfold lexTok; rfl
              refine ⟨p.length - (i + 1), _, _, _, by have := (List.getElem?_eq_some_iff.mp hc).1; lia, ⟨i + 1, pre ++ [.qm], ds, _, cs ++ [_], ms ++ [(46, false)], olds, _, rfl, (List.getElem?_eq_some_iff.mp hc).1, ?_, ?_, fun b o e => kg2 _ _ (kg _ _ e), rfl, ?_, ?_, by walk_at "mm lk", ?_, ?_, ?_, ?_⟩, C⟩
              · rw [hT, hpd, toks_cons, lx, hr]; simp
              · rw [List.foldl_append, hF]; rfl
              · exact hS.mono fun _ _ y => y.keeps kg2
              · exact (PairsN.keeps hP kg2).append (.cons ⟨_, _, rfl, none_of_keeps kg n0, hl⟩ .nil)
              · walk_at "mm lk"
              · walk_at "mm lk"
              · lia
              · simp; lia
            · have hc63 : c ≠ 63 := by simpa using hb
              walk_at "mms"
              refine br (fun hb => ?_) (fun hb => ?_)
              · -- a plain sign
                walk_at "mms"
                rename At _ _ _ _ _ _ => C
                have n0 := (C.gown _ (.head _)).1
                obtain ⟨g2, kg2, C, hl, _⟩ := C.freeze
                have lx : lexTok c r = (.one c, r) := by
                  unfold lexTok
                  rw [if_neg hc42, if_neg hc63]
                  split
                  · rename_i e91
                    subst e91
                    rw [if_pos rfl] at hb
                    unfold findFrom at hb
                    rw [show p.drop (i + 1 + skipOf r + 1) = r.drop (skipOf r + 1) by rw [← hr, List.drop_drop]; rfl] at hb
                    split at hb
                    · lia
                    · rename_i e0; first | rw [e0] | rfl
                  · rfl
                refine ⟨p.length - (i + 1), _, _, _, by have := (List.getElem?_eq_some_iff.mp hc).1; lia, ⟨i + 1, pre ++ [.one c], ds, _, cs ++ [_], ms ++ [(c, decide (c ∈ specials))], olds, _, rfl, (List.getElem?_eq_some_iff.mp hc).1, ?_, ?_, fun b o e => kg2 _ _ (kg _ _ e), rfl, ?_, ?_, by walk_at "mm lk", ?_, ?_, ?_, ?_⟩, C⟩
                · rw [hT, hpd, toks_cons, lx, hr]; simp
                · rw [List.foldl_append, hF]; rfl
                · exact hS.mono fun _ _ y => y.keeps kg2
                · exact (PairsN.keeps hP kg2).append (.cons ⟨_, _, rfl, none_of_keeps kg n0, hl⟩ .nil)
                · walk_at "mm lk"
                · walk_at "mm lk"
                · lia
                · simp; lia
              · -- a bracket
                obtain ⟨q, hq, hend⟩ : ∃ q, (r.drop (skipOf r + 1)).findIdx? (· == 93) = some q ∧ (if c = 91 then findFrom p 93 (i + 1 + skipOf r + 1) else -1) = ((i + 1 + skipOf r + 1 + q : Nat) : Int) := by
                  by_cases e91 : c = 91
                  · rw [if_pos e91] at hb ⊢
                    unfold findFrom at hb ⊢
                    rw [show p.drop (i + 1 + skipOf r + 1) = r.drop (skipOf r + 1) by rw [← hr, List.drop_drop]; rfl] at hb ⊢
                    split at hb
                    · rename_i q e0; exact ⟨q, e0, rfl⟩
                    · lia
                  · rw [if_neg e91] at hb; lia
                have e91 : c = 91 := by
                  by_cases e : c = 91
                  · exact e
                  · rw [if_neg e] at hend; lia
                clear hb
                rename At _ _ _ _ _ _ => C
                rename Up _ _ (Value.int (if c = 91 then findFrom p 93 (i + 1 + skipOf r + 1) else -1) _) _ => Uend
                rw [hend] at Uend
                subst e91
                generalize hneg : decide (r.take 1 = [33]) = neg
                have hsk : skipOf r = if neg = true then 1 else 0 := by unfold skipOf; rw [← hneg]; by_cases e : r.take 1 = [33] <;> simp [e]
                generalize hfi : i + 1 + skipOf r = fi at *
                have hfi2 : fi = i + 1 + (if neg = true then 1 else 0) := by rw [← hfi, hsk]
                generalize hbody : (r.drop (skipOf r)).take (q + 1) = body
                have hqlen : skipOf r + 1 + q < r.length := by
                  have := (List.findIdx?_eq_some_iff_getElem.mp hq).1
                  simp at this; lia
                have hrlen : r.length = p.length - (i + 1) := by rw [← hr]; simp
                have hblen : body.length = q + 1 := by rw [← hbody]; simp; lia
                have hbget : ∀ jj d, body[jj]? = some d → p[fi + jj]? = some d := by
                  intro jj d e
                  rw [← hbody, List.getElem?_take] at e
                  split at e
                  · rw [List.getElem?_drop, ← hr, List.getElem?_drop] at e
                    rw [hr] at e; rw [show fi + jj = i + 1 + (skipOf r + jj) by lia]; exact e
                  · cases e
                walk_at "mms"
                rename At _ _ _ _ _ _ => C
                refine cutAt C (fun v => ∃ t, v = .str (S (if neg then [91, 94] else [91])) t) ?_ ?_
                · walk_at "mif"
                  walk_at "mms"
                  refine br (fun hb => ?_) (fun hb => ?_)
                  · walk_at "mms"
                    exact ⟨⟨_, by rw [if_pos (by cases neg <;> simp at hfi2 ⊢; lia)]⟩, by assumption⟩
                  · walk_at "mms"
                    exact ⟨⟨_, by rw [if_neg (by cases neg <;> simp at hfi2 ⊢; lia)]⟩, by assumption⟩
                · clear C
                  rintro _ _ ⟨t1, rfl⟩ C
                  walk_at "mms"
                  rename At _ _ _ _ _ _ => C
                  refine spBare (C.gd Gg) R' (by walk_at "om") C.gens (by rw [S_len]; cases neg <;> simp [sizeLine]) ?_
                  intro b1 bs1 s3 k3 o3 g3' n3 l3 P3
                  obtain ⟨g3, kg3, C3, low3⟩ := C.take k3 o3 g3'
                  have P3 := PairsN.low P3 (fun b o e => C.keep b o (kg b o e)) low3
                  clear C
                  have Gg3 := Gg.keeps kg3
                  walk_at "mms"
                  refine extL C3 (by walk_at "upd") l3 ?_ ?_
                  · have := P3.length
                    cases neg <;> simp at this <;> rw [this] <;> unfold sizeLine <;> lia
                  intro s4 C4
                  clear C3
                  have P3 : PairsN s.heap g3 bs1 (bare (if neg then [91, 94] else [91])) := P3
                  have lb1 : i + bs1.length = fi := by have := P3.length; rw [hfi2]; cases neg <;> simp [bare] at this <;> rw [this] <;> rfl
                  walk_at "mms"
                  refine wpAny_For ?_ (by intro _; rfl)
                  walk_at "mms"
                  rename At _ _ _ _ _ _ => C
                  refine rangeR C ?_
                  clear C
                  intro rg s5 C5 _
                  refine itRng C5 (.head _) (by walk_at "om") (by walk_at "om") ?_
                  intro it s6 C6 _
                  rw [show fi + 1 + q - fi = q + 1 by lia] at C6
                  have C6 := C6.drop (own' := [(it, _), (S0, _), (cur, _)]) (.cons₂ _ (.cons _ (List.Sublist.refl _)))
                  clear C5
                  walk_at "hr"
                  refine forR (iterRange w fi (q + 1)) R'.handled (StrFor s g3 p t S0 cur olds ms neg body i fi q) (fun _ _ _ _ _ => trivial) ?_ ?_ ?_ C6
                  · intro jj g4 m4 own4 v s7 hjj hv hI C7
                    obtain ⟨tv, rfl⟩ := hv
                    obtain ⟨kg4, cs', tk', te, rfl, hP', n1, n2, n3, n4, n5⟩ := hI
                    obtain ⟨d, hd⟩ : ∃ d, body[jj]? = some d := ⟨_, List.getElem?_eq_getElem (by walk_at "om")⟩
                    have hpd2 := hbget jj d hd
                    walk_at "ht"
                    refine wpAny_pure ?_
                    walk_at "mms"
                    rename At _ _ _ _ _ _ => C
                    refine cutAt C (fun v => v = .bool (slashedAt neg jj d)) ?_ ?_
                    · walk_at "mbo"
                      walk_at "mms"
                      refine br (fun hb => ?_) (fun hb => ?_)
                      · exact ⟨by unfold slashedAt; rw [decide_eq_true hb, Bool.true_or], by assumption⟩
                      · walk_at "mms"
                        walk_at "mbo"
                        walk_at "mms"
                        refine br (fun hb2 => ?_) (fun hb2 => ?_)
                        · walk_at "mms"
                          refine ⟨?_, by assumption⟩
                          have e1 : neg = false := by cases neg <;> simp at hfi2 <;> first | rfl | lia
                          have e2 : jj = 0 := by rw [e1] at hfi2; simp at hfi2; lia
                          unfold slashedAt; rw [decide_eq_false hb, e1, e2]; rfl
                        · refine ⟨?_, by assumption⟩
                          unfold slashedAt; rw [decide_eq_false hb, decide_eq_false hb2]
                          cases neg with
                          | true => rfl
                          | false =>
                            simp at hfi2
                            rw [decide_eq_false (show ¬ jj = 0 by walk_at "om")]; rfl
                    · clear C
                      rintro _ _ rfl C
                      walk_at "mms"
                      rename At _ _ _ _ _ _ => C
                      have n0 := (C.gown _ (.head _)).1
                      obtain ⟨g5, kg5, C, hl, _⟩ := C.freeze
                      refine ⟨g5, _, [(S0, lst (olds ++ [.ref cur])), (cur, lst (cs' ++ [_]))], ⟨fun b o e => kg5 _ _ (kg4 _ _ e), _, _, _, rfl, ?_, by walk_at "mm lk", ?_, ?_, by walk_at "mm lk", ?_⟩, C⟩
                      · have e : (bodyMarks neg body).take (jj + 1) = (bodyMarks neg body).take jj ++ [(d, slashedAt neg jj d)] := by
                          rw [List.take_succ]; unfold bodyMarks; rw [List.getElem?_mapIdx, hd]; rfl
                        rw [e, ← List.append_assoc]
                        exact (PairsN.keeps hP' kg5).append (.cons ⟨_, _, rfl, none_of_keeps (fun b o e => kg4 _ _ (kg3 _ _ (kg _ _ e))) n0, hl⟩ .nil)
                      · walk_at "mm lk"
                      · walk_at "mm lk"
                      · simp; lia
                  · intro g4 m4 own4 s7 hI C7
                    obtain ⟨kg4, cs', tk', te, rfl, hP', n1, n2, n3, n4, n5⟩ := hI
                    have Gg4 := Gg3.keeps kg4
                    walk_at "mms"
                    rename At _ _ _ _ _ _ => C
                    refine spBare (C.gd Gg4) R' (by walk_at "om") C.gens (by rw [S_len]; simp [sizeLine]) ?_
                    intro b2 bs2 s8 k8 o8 g8' n8 l8 P8
                    obtain ⟨g8, kg8, C8, low8⟩ := C.take k8 o8 g8'
                    have P8 := PairsN.low P8 (fun b o e => C.keep b o (kg4 b o (kg3 b o (kg b o e)))) low8
                    have P8 : PairsN s.heap g8 bs2 (bare [93]) := P8
                    have lb2 : bs2.length = 1 := P8.length
                    clear C
                    have Gg8 := Gg4.keeps kg8
                    walk_at "mms"
                    refine extL C8 (by walk_at "upd") l8 (by rw [lb2]; unfold sizeLine; lia) ?_
                    intro s9 C9
                    clear C8
                    walk_at "mms"
                    rename At _ _ _ _ _ _ => C
                    have lx : lexTok 91 r = (.set neg body, r.drop (skipOf r + 1 + q + 1)) := by
                      unfold lexTok
                      rw [if_neg (by decide), if_neg (by decide), if_pos rfl, hq]
                      simp only [hbody]
                      rw [← hneg]
                    have le : (bodyMarks neg body).take (q + 1) = bodyMarks neg body := List.take_of_length_le (by unfold bodyMarks; rw [List.length_mapIdx]; lia)
                    refine ⟨p.length - (fi + 1 + q + 1), _, _, _, by walk_at "om", ⟨fi + 1 + q + 1, pre ++ [.set neg body], ds, _, cs' ++ bs2, ms ++ marksOf (.set neg body), olds, _, rfl, by walk_at "om", ?_, ?_, fun b o e => kg8 _ _ (kg4 _ _ (kg3 _ _ (kg _ _ e))), rfl, ?_, ?_, by walk_at "mm lk", ?_, ?_, ?_, ?_⟩, C⟩
                    · rw [hT, hpd, toks_cons, lx, show p.drop (fi + 1 + q + 1) = r.drop (skipOf r + 1 + q + 1) by rw [← hr, List.drop_drop]; congr 1; rw [hr]; lia]; simp
                    · rw [List.foldl_append, hF]; rfl
                    · exact hS.mono fun _ _ y => y.keeps (fun b o e => kg8 _ _ (kg4 _ _ (kg3 _ _ e)))
                    · rw [le] at hP'
                      have := (PairsN.keeps hP' kg8).append P8
                      simpa [marksOf, List.append_assoc] using this
                    · walk_at "mm lk"
                    · walk_at "mm lk"
                    · lia
                    · simp [lb2]; lia
                  · exact ⟨fun _ _ e => e, cs ++ bs1, _, _, rfl, by simpa using (PairsN.keeps hP kg3).append P3, by walk_at "mm lk", by walk_at "mm lk", by walk_at "mm lk", by walk_at "mm lk", by simp; lia⟩
    · -- the end
      obtain rfl : i = p.length := by lia
      walk_at "mms"
      rename At _ _ _ _ _ _ => C
      have n0 := (C.gown _ (.head _)).1
      have n1 := (C.gown _ (.tail _ (.head _))).1
      have e : strandsOf p = ds ++ [ms] := by
        unfold strandsOf
        rw [hT, show toks (p.drop p.length) = [] by rw [List.drop_length, toks], List.append_nil, hF]
      refine h S0 _ _ (fun b o e => C.keep _ _ (kg _ _ e)) C.os C.gens (none_of_keeps kg n0) (C.listIn (.head _)) ?_
      rw [e]
      refine (hS.mono fun _ _ y => y.keeps C.keep).append (.cons ⟨cur, cs, rfl, none_of_keeps kg n1, C.listIn (.tail _ (.head _)), PairsN.keeps hP C.keep⟩ .nil)
  · refine ⟨0, [], [], cur, [], [], [], _, rfl, Nat.zero_le _, rfl, rfl, fun _ _ e => e, rfl, .nil, .nil, Up.same (by assumption), ?_, ?_, Nat.le_refl _, Nat.le_refl _⟩
    · walk_at "mm lk"
    · walk_at "mm lk"
end
-- MMarked
section
noncomputable def midMarks (st : List Mk) : List Mk := if st = [] then [] else bare [40, 63, 62, 46, 42, 63] ++ st ++ bare [41]
noncomputable def midsOf (ss : List (List Mk)) : List (List Mk) := (ss.drop 1).take (ss.length - 2)
noncomputable def markedOf (p : List Nat) : List Mk :=
  let ss := strandsOf p
  bare [40, 63, 115, 58] ++ ss.headD [] ++ (if 1 < ss.length then ((midsOf ss).map midMarks).flatten ++ (bare [46, 42] ++ ss.getLastD []) else []) ++ bare [41] ++ [(90, true)]
noncomputable def wT (ss : List (List Mk)) : Nat := (ss.map fun st => st.length + 7).sum
theorem wT_app (a b : List (List Mk)) : wT (a ++ b) = wT a + wT b := by simp [wT]
theorem wT_take (a : List (List Mk)) (n : Nat) : wT (a.take n) ≤ wT a := by
  have := wT_app (a.take n) (a.drop n)
  rw [List.take_append_drop] at this; lia
theorem wT_drop (a : List (List Mk)) (n : Nat) : wT (a.drop n) ≤ wT a := by
  have := wT_app (a.take n) (a.drop n)
  rw [List.take_append_drop] at this; lia
theorem midMarks_len (st : List Mk) : (midMarks st).length ≤ st.length + 7 := by
  unfold midMarks; split
  · simp
  · simp [bare]
theorem flat_len (ss : List (List Mk)) : ((ss.map midMarks).flatten).length ≤ wT ss := by
  induction ss with
  | nil => simp [wT]
  | cons a l ih =>
    have := midMarks_len a
    simp only [List.map_cons, List.flatten_cons, List.length_append, wT, List.sum_cons] at ih ⊢
    lia
theorem marksOf_len (c : Nat) (r : List Nat) : (marksOf (lexTok c r).1).length + (lexTok c r).2.length ≤ r.length + 1 := by
  unfold lexTok
  split
  · simp [marksOf]
  split
  · simp [marksOf, Nat.add_comm]
  split
  · split
    · rename_i q hq
      have h1 := (List.findIdx?_eq_some_iff_getElem.mp hq).1
      have h2 : skipOf r = if r.take 1 = [33] then 1 else 0 := rfl
      simp only [marksOf, bare, bodyMarks, List.length_append, List.length_map, List.length_mapIdx, List.length_take, List.length_drop, List.length_cons, List.length_nil] at h1 ⊢
      by_cases e : r.take 1 = [33]
      · rw [if_pos e] at h2; simp only [e, decide_true, if_true, List.length_cons, List.length_nil]; lia
      · rw [if_neg e] at h2; simp only [e, decide_false, Bool.false_eq_true, if_false, List.length_cons, List.length_nil]; lia
    · simp [marksOf, Nat.add_comm]
  · simp [marksOf, Nat.add_comm]
theorem fold_wT : ∀ (n : Nat) (p : List Nat), p.length ≤ n → ∀ (ds : List (List Mk)) (ms : List Mk), wT (((toks p).foldl stepS (ds, ms)).1 ++ [((toks p).foldl stepS (ds, ms)).2]) ≤ wT (ds ++ [ms]) + 7 * p.length := by
  intro n
  induction n with
  | zero => intro p hp ds ms; cases p with
    | nil => rw [toks]; simp
    | cons c r => simp at hp
  | succ n ih =>
    intro p hp ds ms
    cases p with
    | nil => rw [toks]; simp
    | cons c r =>
      rw [toks_cons, List.foldl_cons]
      have hl := lexTok_len c r
      have hm := marksOf_len c r
      have := ih (lexTok c r).2 (by simp at hp; lia)
      cases e : (lexTok c r).1 with
      | star =>
        have := this (ds ++ [ms]) []
        show wT ((List.foldl stepS (ds ++ [ms], []) _).1 ++ [(List.foldl stepS (ds ++ [ms], []) _).2]) ≤ _
        have e7 : wT [([] : List Mk)] = 7 := rfl
        rw [wT_app (ds ++ [ms])] at this
        simp only [List.length_cons]; lia
      | qm =>
        rw [e] at hm
        have := this ds (ms ++ marksOf .qm)
        show wT ((List.foldl stepS (ds, ms ++ marksOf .qm) _).1 ++ [(List.foldl stepS (ds, ms ++ marksOf .qm) _).2]) ≤ _
        rw [wT_app] at this ⊢
        rw [wT_app] at this ⊢
        simp only [wT, List.map_cons, List.map_nil, List.sum_cons, List.sum_nil, List.length_append, List.length_cons] at this hm ⊢
        lia
      | one c' =>
        rw [e] at hm
        have := this ds (ms ++ marksOf (.one c'))
        show wT ((List.foldl stepS (ds, ms ++ marksOf (.one c')) _).1 ++ [(List.foldl stepS (ds, ms ++ marksOf (.one c')) _).2]) ≤ _
        rw [wT_app] at this ⊢
        rw [wT_app] at this ⊢
        simp only [wT, List.map_cons, List.map_nil, List.sum_cons, List.sum_nil, List.length_append, List.length_cons] at this hm ⊢
        lia
      | set neg b =>
        rw [e] at hm
        have := this ds (ms ++ marksOf (.set neg b))
        show wT ((List.foldl stepS (ds, ms ++ marksOf (.set neg b)) _).1 ++ [(List.foldl stepS (ds, ms ++ marksOf (.set neg b)) _).2]) ≤ _
        rw [wT_app] at this ⊢
        rw [wT_app] at this ⊢
        simp only [wT, List.map_cons, List.map_nil, List.sum_cons, List.sum_nil, List.length_append, List.length_cons] at this hm ⊢
        lia
theorem strands_wT (p : List Nat) : wT (strandsOf p) ≤ 7 + 7 * p.length := fold_wT p.length p (Nat.le_refl _) [] []
theorem strands_ne (p : List Nat) : strandsOf p ≠ [] := by unfold strandsOf; simp

theorem slicePick_mid (vs : List Value) : (slicePick vs.toArray (some 1) (some (-1)) none).toList = (vs.drop 1).take (vs.length - 2) := by
  rw [slicePick_plain]
  rw [show (some (1 : Int)) = some ((1 : Nat) : Int) from rfl]
  simp only [Option.elim, clipAt_nat, show (-1 : Int) = -((1 : Nat) : Int) from rfl, clipAt_neg _ 1 (Nat.le_refl _), List.size_toArray]
  rcases Nat.lt_or_ge vs.length 1 with h | h
  · obtain rfl : vs = [] := List.length_eq_zero_iff.mp (by walk_at "om")
    rfl
  · rw [Nat.min_eq_left h, show vs.length - 1 - 1 = vs.length - 2 by lia]

theorem addLF {w : World} {A : Around} {E : Value → Shared → Prop} {O : OsState} {g : Heap} {L : Addr} {m : Str → Option Value} {own : Own} {s : Shared} {l b : Addr} {vs ws : List Value} {Q : Value → Shared → Prop} (C : At O g L m own s) (hl : ListIn g l vs) (hb : ListIn g b ws) (hsz : vs.length + ws.length ≤ sizeLine)
    (h : ∀ a g' s', Keeps g g' → At O g' L m own s' → ListIn g' a (vs ++ ws) → g.get? a = none → Q (.ref a) s') : wpAny (Md w) A (binaryOp .Add (.ref l) (.ref b)) Q E s := by
  refine addL C (hl.keeps C.keep) (hb.keeps C.keep) hsz (fun a s' C' => ?_)
  have n := (C'.gown _ (.head _)).1
  obtain ⟨g', k, C2, l2, _⟩ := C'.freeze
  exact h a g' s' k C2 l2 n
theorem bareF {w : World} {A : Around} {E : Value → Shared → Prop} {O : OsState} {g h0 : Heap} {L : Addr} {m : Str → Option Value} {own : Own} {s : Shared} {l : List Nat} {t : Tok} {j : Nat} {Q : Value → Shared → Prop} (C : At O g L m own s) (G : Gd w g) (R : Rm j A) (hj : j ≤ 90) (k0 : Keeps h0 g) (hx : l.length ≤ sizeLine)
    (h : ∀ a bs g' s', Keeps g g' → At O g' L m own s' → ListIn g' a bs → PairsN h0 g' bs (bare l) → bs.length = l.length → Q (.ref a) s') : wpAny (Md w) A (call (.ref 796) [.str (S l) t]) Q E s := by
  refine spBare (C.gd G) R hj C.gens (by rw [S_len]; exact hx) (fun a bs s' k o gg n l2 P => ?_)
  obtain ⟨g', kg, C', low⟩ := C.take k o gg
  have P : PairsN h0 g' bs (bare l) := PairsN.low P (fun b o e => C.keep b o (k0 b o e)) low
  exact h a bs g' s' kg C' (let ⟨o, e, q⟩ := l2; ⟨o, low _ _ e n, q⟩) P (by rw [P.length]; simp [bare])
theorem All2.take {α β : Type} {R : α → β → Prop} {l : List α} {l' : List β} (h : All2 R l l') : ∀ n, All2 R (l.take n) (l'.take n) := by
  induction h with
  | nil => intro n; simp; exact .nil
  | cons h _ ih => intro n; cases n with
    | zero => exact .nil
    | succ n => exact .cons h (ih n)
theorem wT_len (l : List (List Mk)) : 7 * l.length ≤ wT l := by
  induction l with
  | nil => simp [wT]
  | cons a l ih => simp only [wT, List.map_cons, List.sum_cons, List.length_cons] at ih ⊢; lia

theorem spMarked {w : World} {A : Around} {E : Value → Shared → Prop} {s : Shared} {p : List Nat} {t : Tok} {j : Nat} {Q : Value → Shared → Prop} (G : Gd w s.heap) (R : Rm j A) (hj : j ≤ 70) (hg : s.gens = #[]) (hx : p.length ≤ 100000)
    (h : ∀ a vs s', Keeps s.heap s'.heap → s'.os = s.os → s'.gens = #[] → s.heap.get? a = none → ListIn s'.heap a vs → PairsN s.heap s'.heap vs (markedOf p) → Q (.ref a) s') : wpAny (Md w) A (call (.ref 810) [.str (S p) t]) Q E s := by
  refine callK0 (binds := [("pattern", .str (S p) t)]) G R (by walk_at "om") (lk810 w) (cd810 w) (BindsTo.of_eq rfl) rfl (by kernel_rfl) rfl rfl rfl hg ?_
  intro L s' C _
  have R' := R.deeper (envOf "_law_marked" (fnScope (stAt PG 36)) L 810 (.ref 809))
  walk_at "xs"
  walk_at "mms"
  rename At _ _ _ _ _ _ => C
  refine spStrands (C.gd G) R' (by walk_at "om") C.gens hx ?_
  intro ss svs s3 k3 o3 g3' n3 l3 P3
  obtain ⟨g3, kg3, C3, low3⟩ := C.take k3 o3 g3'
  have P3 : StrandsN s.heap g3 svs (strandsOf p) := P3.mono fun _ _ y => y.low C.keep low3
  have L3 : ListIn g3 ss svs := let ⟨o, e, q⟩ := l3; ⟨o, low3 _ _ e n3, q⟩
  have G3 := G.keeps kg3
  have hW := strands_wT p
  have hne := strands_ne p
  unfold markedOf at h
  generalize strandsOf p = sts at *
  have hlen := P3.length
  clear C
  walk_at "mms"
  rename At _ _ _ _ _ _ => C
  refine bareF C G3 R' (by walk_at "om") (fun b o e => kg3 _ _ e) (by simp [sizeLine]) ?_
  intro b1 bs1 g4 s4 kg4 C4 L4 P4 hb1
  clear C
  have G4 := G3.keeps kg4
  walk_at "mms"
  rename At _ _ _ _ _ _ => C
  cases sts with
  | nil => exact absurd rfl hne
  | cons h0 tl =>
  cases P3 with
  | @cons v0 _ vt _ e0 et =>
  obtain ⟨a0, cs0, rfl, n0, l0, p0⟩ := e0
  have hc0 : cs0.length = h0.length := p0.length
  have ht0 : vt.length = tl.length := et.length
  have hw1 := wT_len tl
  have hw0 : h0.length + wT tl ≤ 700000 := by simp only [wT, List.map_cons, List.sum_cons] at hW ⊢; lia
  refine idxL (k := 0) ((L3.keeps kg4).keeps C.keep) rfl (by walk_at "sz") ?_
  simp only [List.length_cons, List.length_nil] at hb1
  refine addLF C L4 (l0.keeps kg4) (by walk_at "sz") ?_
  intro mk0 g5 s5 kg5 C5 L5 n5
  clear C
  have G5 := G4.keeps kg5
  have L3' := (L3.keeps kg4).keeps kg5
  walk_at "mms"
  rename At _ _ _ _ _ _ => C
  refine lenL C (L3'.keeps C.keep) (by walk_at "sz") ?_
  clear C
  intro _ _ _ _
  walk_at "mms"
  refine br (fun hb => ?_) (fun hb => ?_)
  · have htl : 1 ≤ tl.length := by simp at hb; lia
    walk_at "mms"
    refine wpAny_For ?_ (by intro _; rfl)
    refine slListR ?_ (by intro _ _; rfl)
    walk_at "mms"
    rename At _ _ _ _ _ _ => C
    refine ⟨ss, _, some 1, some (-1), _, _, _, _, _, rfl, C, L3'.keeps C.keep, by walk_at "sz", .int 1 _, .int (-1) _, ?_⟩
    intro D s7 C7 k7 _
    rw [slicePick_mid] at C7
    obtain ⟨g6, kg6, C6, hD, _⟩ := C7.freeze
    have hD : ListIn g6 D (vt.take (tl.length - 1)) := by
      have e : (List.drop 1 (Value.ref a0 :: vt)).take ((Value.ref a0 :: vt).length - 2) = vt.take (tl.length - 1) := by
        simp only [List.drop_succ_cons, List.drop_zero, List.length_cons]; congr 1; lia
      rw [← e]; exact hD
    clear C C7
    refine itL C6 (hD.keeps C6.keep) ?_
    intro it s8 C8 _ _
    have G6 := G5.keeps kg6
    have hmid : All2 (StrandN s.heap g6) (vt.take (tl.length - 1)) (tl.take (tl.length - 1)) := (All2.take et (tl.length - 1)).mono fun _ _ y => ((y.keeps kg4).keeps kg5).keeps kg6
    have hwm : wT (tl.take (tl.length - 1)) ≤ wT tl := wT_take _ _
    have hmids : midsOf (h0 :: tl) = tl.take (tl.length - 1) := by unfold midsOf; simp
    generalize hvm : vt.take (tl.length - 1) = vm at *
    generalize htm : tl.take (tl.length - 1) = tm at *
    have hn : vm.length = tm.length := hmid.length
    walk_at "hr"
    refine forR (iterList w D vm) R'.handled (fun i g m own => Keeps g6 g ∧ own = [] ∧ ∃ mk mv, m "marked" = some (.ref mk) ∧ ListIn g mk mv ∧ PairsN s.heap g mv (bare [40, 63, 115, 58] ++ h0 ++ ((tm.take i).map midMarks).flatten) ∧ m "strands" = some (.ref ss)) (fun i g m own h => hD.keeps h.1) ?_ ?_ ⟨fun _ _ e => e, rfl, _, _, by walk_at "mm lk", L5.keeps kg6, by simpa using ((PairsN.keeps P4 kg5).keeps kg6).append (((PairsN.keeps p0 kg4).keeps kg5).keeps kg6), by walk_at "mm lk"⟩ C8
    · intro i g7 m7 own7 v s9 hi hv hI C9
      obtain ⟨kg7, rfl, mk, mv, m1, Lm, Pm, m2⟩ := hI
      have G7 := G6.keeps kg7
      obtain ⟨st, est, ⟨ai, cs, rfl, nai, li, pi⟩⟩ := hmid.get hv
      have hwi : (bare [40, 63, 115, 58] ++ h0 ++ ((tm.take i).map midMarks).flatten).length ≤ 4 + 700000 := by
        have := flat_len (tm.take i)
        have := wT_take tm i
        simp only [List.length_append, bare, List.length_map, List.length_cons, List.length_nil]; lia
      have hmv := Pm.length
      have hst : st.length + 7 ≤ 700000 + 7 := by
        have : wT [st] ≤ wT tm := by
          have h1 := wT_take (tm.drop i) 1
          have h2 := wT_drop tm i
          have h3 : (tm.drop i).take 1 = [st] := by
            rw [List.drop_eq_getElem?_toList_append, est]; rfl
          rw [h3] at h1; lia
        have h4 : wT [st] = st.length + 7 := by simp [wT]
        lia
      have hcs : cs.length = st.length := pi.length
      have e1 : tm.take (i + 1) = tm.take i ++ [st] := by rw [List.take_succ, est]; rfl
      walk_at "ht"
      refine wpAny_pure ?_
      walk_at "mms"
      rename At _ _ _ _ _ _ => C
      refine neL0 ((li.keeps kg7).keeps C.keep) (C.listIn (.head _)) (R'.cRoom (by walk_at "om")) ?_
      have C := C.drop (own' := [(it, lstIt D (i + 1))]) (.cons _ (List.Sublist.refl _))
      walk_at "mms"
      rw [← decide_not]
      refine br (fun hb => ?_) (fun hb => ?_)
      · walk_at "mms"
        rename At _ _ _ _ _ _ => C
        refine bareF C G7 R' (by walk_at "om") (fun b o e => kg7 _ _ (kg6 _ _ (kg5 _ _ (kg4 _ _ (kg3 _ _ e))))) (by simp [sizeLine]) ?_
        intro b8 bs8 g8 s10 kg8 C10 L8 P8 hb8
        clear C
        have G8 := G7.keeps kg8
        simp only [List.length_cons, List.length_nil] at hb8
        walk_at "mms"
        refine addLF C10 (Lm.keeps kg8) L8 (by walk_at "sz") ?_
        intro a9 g9 s11 kg9 C11 L9 n9
        clear C10
        have G9 := G8.keeps kg9
        walk_at "mms"
        rename At _ _ _ _ _ _ => C
        refine addLF C L9 (((li.keeps kg7).keeps kg8).keeps kg9) (by walk_at "sz") ?_
        intro a10 g10 s12 kg10 C12 L10 n10
        clear C
        have G10 := G9.keeps kg10
        walk_at "mms"
        rename At _ _ _ _ _ _ => C
        refine bareF C G10 R' (by walk_at "om") (fun b o e => kg10 _ _ (kg9 _ _ (kg8 _ _ (kg7 _ _ (kg6 _ _ (kg5 _ _ (kg4 _ _ (kg3 _ _ e)))))))) (by simp [sizeLine]) ?_
        intro b11 bs11 g11 s13 kg11 C13 L11 P11 hb11
        clear C
        simp only [List.length_cons, List.length_nil] at hb11
        walk_at "mms"
        refine addLF C13 (L10.keeps kg11) L11 (by walk_at "sz") ?_
        intro a12 g12 s14 kg12 C14 L12 n12
        clear C13
        walk_at "mms"
        rename At _ _ _ _ _ _ => C
        have k712 : Keeps g7 g12 := fun b o e => kg12 _ _ (kg11 _ _ (kg10 _ _ (kg9 _ _ (kg8 _ _ e))))
        refine ⟨g12, _, [], ⟨fun b o e => k712 _ _ (kg7 _ _ e), rfl, _, _, by walk_at "mm lk", L12, ?_, by walk_at "mm lk"⟩, C⟩
        rw [e1, List.map_append, List.flatten_append]
        have em : [st].map midMarks = [bare [40, 63, 62, 46, 42, 63] ++ st ++ bare [41]] := by
          have : st ≠ [] := fun q => hb (by have := hcs; rw [q] at this; exact List.length_eq_zero_iff.mp this)
          simp [midMarks, this]
        rw [em]
        have := (((PairsN.keeps Pm k712).append (PairsN.keeps P8 fun b o e => kg12 _ _ (kg11 _ _ (kg10 _ _ (kg9 _ _ e))))).append (PairsN.keeps pi fun b o e => k712 _ _ (kg7 _ _ e))).append (PairsN.keeps P11 kg12)
        simpa [List.append_assoc] using this
      · walk_at "mms"
        refine ⟨g7, _, [], ⟨kg7, rfl, mk, mv, by walk_at "mm lk", Lm, ?_, by walk_at "mm lk"⟩, C⟩
        have em : [st].map midMarks = [[]] := by
          have q : cs = [] := by simpa using hb
          have : st = [] := List.length_eq_zero_iff.mp (by rw [← hcs, q]; rfl)
          simp [midMarks, this]
        rw [e1, List.map_append, List.flatten_append, em]
        simpa using Pm
    · intro g7 m7 own7 s9 hI C9
      obtain ⟨kg7, rfl, mk, mv, m1, Lm, Pm, m2⟩ := hI
      have G7 := G6.keeps kg7
      walk_at "mms"
      rename At _ _ _ _ _ _ => C
      have htn : tm.length + 1 = tl.length := by rw [← htm, List.length_take]; lia
      have hwi : (bare [40, 63, 115, 58] ++ h0 ++ ((tm.take vm.length).map midMarks).flatten).length ≤ 4 + 700000 := by
        have := flat_len (tm.take vm.length)
        have := wT_take tm vm.length
        simp only [List.length_append, bare, List.length_map, List.length_cons, List.length_nil]; lia
      have hmv2 : mv.length ≤ 700004 := by rw [Pm.length]; exact hwi
      refine bareF C G7 R' (by walk_at "om") (fun b o e => kg7 _ _ (kg6 _ _ (kg5 _ _ (kg4 _ _ (kg3 _ _ e))))) (by simp [sizeLine]) ?_
      intro b8 bs8 g8 s10 kg8 C10 L8 P8 hb8
      clear C
      have G8 := G7.keeps kg8
      simp only [List.length_cons, List.length_nil] at hb8
      walk_at "mms"
      refine addLF C10 (Lm.keeps kg8) L8 (by walk_at "sz") ?_
      intro a9 g9 s11 kg9 C11 L9 n9
      clear C10
      have G9 := G8.keeps kg9
      walk_at "mms"
      rename At _ _ _ _ _ _ => C
      obtain ⟨ti, tz, etl⟩ : ∃ ti tz, tl = ti ++ [tz] := ⟨tl.dropLast, tl.getLast (by intro q; rw [q] at htl; simp at htl), (List.dropLast_concat_getLast _).symm⟩
      obtain ⟨vi, vz, evt⟩ : ∃ vi vz, vt = vi ++ [vz] := ⟨vt.dropLast, vt.getLast (by intro q; rw [q] at ht0; simp at ht0; lia), (List.dropLast_concat_getLast _).symm⟩
      have k49 : Keeps g3 g9 := fun b o e => kg9 _ _ (kg8 _ _ (kg7 _ _ (kg6 _ _ (kg5 _ _ (kg4 _ _ e)))))
      have hzv : StrandN s.heap g9 vz tz := by
        subst etl evt
        have hl : vi.length = ti.length := by simpa using ht0
        obtain ⟨x, ex, q⟩ := et.get (i := vi.length) (a := vz) (by simp)
        rw [hl] at ex
        simp at ex
        subst ex
        exact q.keeps k49
      obtain ⟨az, csz, rfl, nz, lz, pz⟩ := hzv
      have hcz : csz.length = tz.length := pz.length
      have htz : tz.length ≤ 700000 := by
        have h1 : wT tl = wT ti + wT [tz] := by rw [etl, wT_app]
        have h4 : wT [tz] = tz.length + 7 := by simp [wT]
        lia
      have Lss := (L3.keeps k49).keeps C.keep
      rw [evt, ← List.cons_append] at Lss
      have hvi : vi.length ≤ 700000 := by rw [evt] at ht0; simp at ht0; lia
      refine idxLast Lss (by walk_at "sz") ?_
      refine addLF C L9 lz (by walk_at "sz") ?_
      intro a16 g16 s16 kg16 C16 L16 n16
      clear C
      have G16 := G9.keeps kg16
      have P16 : PairsN s.heap g16 (mv ++ bs8 ++ csz) (bare [40, 63, 115, 58] ++ h0 ++ (tm.map midMarks).flatten ++ bare [46, 42] ++ tz) := by
        have e2 : tm.take vm.length = tm := List.take_of_length_le (by walk_at "om")
        rw [e2] at Pm
        exact ((PairsN.keeps Pm fun b o e => kg16 _ _ (kg9 _ _ (kg8 _ _ e))).append (PairsN.keeps P8 fun b o e => kg16 _ _ (kg9 _ _ e))).append (PairsN.keeps pz kg16)
      walk_at "mms"
      rename At _ _ _ _ _ _ => C
      refine bareF C G16 R' (by walk_at "om") (fun b o e => kg16 _ _ (k49 _ _ (kg3 _ _ e))) (by simp [sizeLine]) ?_
      intro b18 bs18 g18 s20 kg18 C20 L18 P18 hb18
      clear C
      simp only [List.length_cons, List.length_nil] at hb18
      walk_at "mms"
      refine addLF C20 (L16.keeps kg18) L18 (by simp only [List.length_append, List.length_cons, List.length_nil]; walk_at "sz") ?_
      intro a19 g19 s21 kg19 C21 L19 n19
      clear C20
      walk_at "mms"
      rename At _ _ _ _ _ _ => C
      have n20 := (C.gown _ (.head _)).1
      have n21 := (C.gown _ (.tail _ (.head _))).1
      obtain ⟨g22, kg22, C, l22, _⟩ := C.h2.freeze
      obtain ⟨g23, kg23, C, l23, _⟩ := C.freeze
      refine addLF C ((L19.keeps kg22).keeps kg23) l23 (by simp only [List.length_append, List.length_cons, List.length_nil]; walk_at "sz") ?_
      intro a24 g24 s25 kg24 C25 L24 n24
      clear C
      walk_at "mms"
      have k0 : Keeps s.heap g18 := fun b o e => kg18 _ _ (kg16 _ _ (k49 _ _ (kg3 _ _ e)))
      have k1 : Keeps g18 g24 := fun b o e => kg24 _ _ (kg23 _ _ (kg22 _ _ (kg19 _ _ e)))
      have k2 : Keeps g24 s25.heap := C25.keep
      refine h a24 _ s25 (fun b o e => k2 _ _ (k1 _ _ (k0 b o e))) C25.os C25.gens (none_of_keeps (fun b o e => kg23 _ _ (kg22 _ _ (kg19 _ _ (k0 b o e)))) n24) (L24.keeps k2) ?_
      have pz : PairN s.heap s25.heap (.ref _) (90, true) := ⟨_, _, rfl, none_of_keeps (fun b o e => kg19 _ _ (k0 b o e)) n21, (show ListIn g22 _ _ from l22).keeps fun b o e => k2 _ _ (kg24 _ _ (kg23 _ _ e))⟩
      have := ((PairsN.keeps P16 fun b o e => k2 _ _ (k1 _ _ (kg18 _ _ e))).append (PairsN.keeps P18 fun b o e => k2 _ _ (k1 _ _ e))).append (All2.cons pz .nil)
      simp only [List.headD_cons, List.length_cons, show 1 < tl.length + 1 by walk_at "om", if_true, hmids]
      rw [show (h0 :: tl).getLastD [] = tz by rw [etl, ← List.cons_append]; exact List.getLastD_concat]
      simpa [List.append_assoc] using this
  · have htl : tl = [] := List.length_eq_zero_iff.mp (by simp at hb; lia)
    subst htl
    have P5 : PairsN s.heap g5 (bs1 ++ cs0) (bare [40, 63, 115, 58] ++ h0) := (PairsN.keeps P4 kg5).append ((PairsN.keeps p0 kg4).keeps kg5)
    walk_at "mms"
    rename At _ _ _ _ _ _ => C
    refine bareF C G5 R' (by walk_at "om") (fun b o e => kg5 _ _ (kg4 _ _ (kg3 _ _ e))) (by simp [sizeLine]) ?_
    intro b18 bs18 g18 s20 kg18 C20 L18 P18 hb18
    clear C
    simp only [List.length_cons, List.length_nil] at hb18
    walk_at "mms"
    refine addLF C20 (L5.keeps kg18) L18 (by simp only [List.length_append, List.length_cons, List.length_nil]; walk_at "sz") ?_
    intro a19 g19 s21 kg19 C21 L19 n19
    clear C20
    walk_at "mms"
    rename At _ _ _ _ _ _ => C
    have n20 := (C.gown _ (.head _)).1
    have n21 := (C.gown _ (.tail _ (.head _))).1
    obtain ⟨g22, kg22, C, l22, _⟩ := C.h2.freeze
    obtain ⟨g23, kg23, C, l23, _⟩ := C.freeze
    refine addLF C ((L19.keeps kg22).keeps kg23) l23 (by simp only [List.length_append, List.length_cons, List.length_nil]; walk_at "sz") ?_
    intro a24 g24 s25 kg24 C25 L24 n24
    clear C
    walk_at "mms"
    have k0 : Keeps s.heap g18 := fun b o e => kg18 _ _ (kg5 _ _ (kg4 _ _ (kg3 _ _ e)))
    have k1 : Keeps g18 g24 := fun b o e => kg24 _ _ (kg23 _ _ (kg22 _ _ (kg19 _ _ e)))
    have k2 : Keeps g24 s25.heap := C25.keep
    refine h a24 _ s25 (fun b o e => k2 _ _ (k1 _ _ (k0 b o e))) C25.os C25.gens (none_of_keeps (fun b o e => kg23 _ _ (kg22 _ _ (kg19 _ _ (k0 b o e)))) n24) (L24.keeps k2) ?_
    have pz : PairN s.heap s25.heap (.ref _) (90, true) := ⟨_, _, rfl, none_of_keeps (fun b o e => kg19 _ _ (k0 b o e)) n21, (show ListIn g22 _ _ from l22).keeps fun b o e => k2 _ _ (kg24 _ _ (kg23 _ _ e))⟩
    have := ((PairsN.keeps P5 fun b o e => k2 _ _ (k1 _ _ (kg18 _ _ e))).append (PairsN.keeps P18 fun b o e => k2 _ _ (k1 _ _ e))).append (All2.cons pz .nil)
    simp only [List.headD_cons, List.length_cons, List.length_nil, show ¬ (1 < 0 + 1) by walk_at "om", if_false, List.append_nil]
    simpa [List.append_assoc] using this
end
-- MUnpack
section
section
variable {w : World} {A : Around} {E : Value → Shared → Prop} {O : OsState} {g : Heap} {L f : Addr} {m : Str → Option Value} {own own' : Own} {s : Shared} {a it l : Addr} {x y : Value}
theorem ownedNo {target : Expr} {i : Nat} {Q : Unit → Shared → Prop} (C : At O g L m own s) (hi : (it, lstIt l i) ∈ own) (h : Q () s) : wpAny (Md w) A (letOwnedTupleGo target (.ref it) (.ref a)) Q E s := by
  obtain ⟨o, ho, hc, hd⟩ := C.get hi
  unfold letOwnedTupleGo
  split
  · show wpAny _ _ (load it >>= _) _ _ _
    refine wpAny_bind (wpAny_load ho ?_)
    rw [hc, hd]
    exact wpAny_pure h
  · show wpAny _ _ (load it >>= _) _ _ _
    refine wpAny_bind (wpAny_load ho ?_)
    rw [hc, hd]
    exact wpAny_pure h
  · exact wpAny_pure h
theorem unpackL2 {env : Env} {n1 n2 : Str} {p1 p2 pos : Pos} {x1} {Q : Unit → Shared → Prop} (C : At O g env.locals m own s) (hh : A.handled = none) (hl : ListIn g a [x, y]) (h : ∀ s', At O g env.locals (upd (upd m n1 x) n2 y) own s' → Q () s')
    (hk : env.scope.kind = .function := by rfl) (h1 : env.kindOf n1 = some .local := by rfl) (h2 : env.kindOf n2 = some .local := by rfl) :
    wpAny (Md w) A (assign (.Tuple [.Name n1 p1, .Name n2 p2] x1 pos) env (.ref a)) Q E s := by
  rw [arm_assign_Tuple]
  refine wpAny_bind (wpAny_standAt ?_)
  unfold unpack
  refine wpAny_bind (wpAny_holding ?_)
  show wpAny _ _ (unpackItems (.ref a) 2 none) _ _ _
  unfold unpackItems
  refine wpAny_bind ?_
  unfold notIterableAtAll
  refine wpAny_bind (wpAny_specialOf ((hl.keeps C.keep).isList.typeIs) F.slot_list_iter.lookup ?_)
  refine wpAny_pure ?_
  simp only [Bool.false_eq_true, if_false]
  refine wpAny_bind (wpAny_holding (itL C (hl.keeps C.keep) (fun it s1 C1 _ _ => ?_)))
  refine wpAny_bind (wpAny_holding ?_)
  show wpAny _ _ (pyNext (.ref it) >>= _) _ _ _
  refine wpAny_bind ((iterList w a [x, y]).next hl (by simp) C1 (fun v s2 hv C2 => ?_))
  obtain rfl : x = v := by simpa using hv
  dsimp only
  refine wpAny_bind (wpAny_holding ?_)
  show wpAny _ _ (pyNext (.ref it) >>= _) _ _ _
  refine wpAny_bind ((iterList w a [x, y]).next hl (by simp) C2 (fun v s3 hv C3 => ?_))
  obtain rfl : y = v := by simpa using hv
  dsimp only
  refine wpAny_bind (wpAny_holding (wpAny_pure (wpAny_pure (wpAny_pure ?_))))
  simp only [List.length_cons, List.length_nil]
  rw [if_neg (by decide)]
  refine wpAny_bind (wpAny_holding ((iterList w a [x, y]).stop hh hl C3 (fun s4 C4 => ?_)))
  simp only [Option.isSome_none, Bool.false_eq_true, if_false]
  refine wpAny_pure ?_
  show wpAny _ _ (assignInOrder [assign (.Name n1 p1) env, assign (.Name n2 p2) env] [x, y]) _ _ _
  refine assignInOrder_cons (wpAny_assign_Name (stL C4 (fun s5 C5 => ?_) hk h1))
  refine assignInOrder_cons (wpAny_assign_Name (stL C5 (fun s6 C6 => ?_) hk h2))
  exact assignInOrder_nil (h _ C6)
theorem getLast {D : Addr} {vs : List Value} {t : Tok} {Q : Value → Shared → Prop} (C : At O g L m own s) (h1 : (D, lst (vs ++ [x])) ∈ own) (hsz : vs.length ≤ sizeLine) (h : Q x s) : wpAny (Md w) A (getItem (.ref D) (.int (-1) t)) Q E s := by
  refine wpAny_getItem_list_neg (C.listIn h1).isList (by lia) (by simp; lia) (by lia) ?_ h
  have : ((-1 : Int) + ((vs ++ [x]).toArray.size : Int)).toNat = vs.length := by simp; lia
  rw [this]; simp
theorem setLast {D : Addr} {vs : List Value} {t : Tok} {Q : Unit → Shared → Prop} (C : At O g L m own s) (u : Upd D (lst (vs ++ [x])) (lst (vs ++ [y])) own own') (hsz : vs.length ≤ sizeLine) (h : ∀ s', At O g L m own' s' → Q () s') : wpAny (Md w) A (setItem (.ref D) (.int (-1) t) y) Q E s := by
  have hl := (C.listIn u.mem).isList
  obtain ⟨o, ho, n, ro⟩ := C.get u.mem
  have hd : o.data = .seq (vs ++ [x]).toArray n := by rw [ro]
  unfold setItem
  try with_reducible refine wpAny_holding ?_
  first | refine wpAny_bind (wpAny_pure ?_) | skip
  refine wpAny_bind (wpAny_sequenceKey hl.typeIs (by decide) ?_)
  refine wpAny_bind (wpAny_callSpecial?_slot (name := Str.ofString "__setitem__") hl.typeIs slot_list_setitem
    (wpAny_call_entry slot_list_setitem hl.typeIs entry_list_setitem ?_ (args_list_setitem _ _ _)))
  show wpAny _ _ (Builtin.List.listSubscript? (.int (-1) t) >>= _) _ _ s
  refine wpAny_bind (wpAny_listSubscript_int (fitsIndex_neg (by lia) (by lia)) ?_)
  have hidx : seqIndex? (-1) (vs ++ [x]).toArray.size = some vs.length := by
    rw [seqIndex_neg (by lia) (by simp; lia)]; congr 1; simp; lia
  have hx : (vs ++ [x]).toArray[vs.length]? = some x := by simp
  show wpAny _ _ ((Builtin.List.listItems (.ref D) >>= fun xs => pure ((seqIndex? (-1) xs.size).bind fun i => xs[i]?.map (i, ·))) >>= _) _ _ s
  refine wpAny_bind (wpAny_bind ?_)
  show wpAny _ _ (seqItems? (.ref D) >>= _) _ _ s
  refine wpAny_bind (wpAny_seqItems ho hd (wpAny_pure (wpAny_pure ?_)))
  rw [hidx]
  simp only [Option.bind_some, hx, Option.map_some]
  show wpAny _ _ (setSeqItemAt D vs.length y >>= _) _ _ s
  have fin : At O g L m own' { s with heap := s.heap.update D (Obj.mapSeq (·.setIfInBounds vs.length y)) } := by
    obtain ⟨n', hd'⟩ := Obj.data_mapSeq hd (·.setIfInBounds vs.length y)
    refine C.upd u (Heap.SameBut.update ..) ⟨_, Heap.get?_update_self _ ho (Obj.isFreed_of_seq hd'), ?_⟩ s.toks
    rw [ro]
    exact ⟨_, by simp [Obj.mapSeq]; rfl⟩
  refine wpAny_bind (wpAny_setSeqItemAt ho hd ?_)
  first
    | exact wpAny_bind (wpAny_pure (wpAny_pure ⟨.none, rfl, wpAny_pure (h _ fin)⟩))
    | exact wpAny_pure ⟨.none, rfl, wpAny_pure (h _ fin)⟩
end
end
-- MWords
section
theorem cutP {α : Type} {w : World} {A : Around} {E : Value → Shared → Prop} {s : Shared} {e : Sem α} {Q : α → Shared → Prop} (P : α → Shared → Prop) (h1 : wpAny (Md w) A e P E s) (h2 : ∀ a s', P a s' → Q a s') : wpAny (Md w) A e Q E s :=
  wpAny_mono h1 h2 fun _ _ e => e
theorem cutB {w : World} {A : Around} {E : Value → Shared → Prop} {O : OsState} {g : Heap} {L : Addr} {m : Str → Option Value} {own : Own} {s : Shared} {e : Sem Bool} {Q : Bool → Shared → Prop} (C : At O g L m own s) (v : Bool) (h1 : wpAny (Md w) A e (fun b s' => b = v ∧ At O g L m own s') E s) (h2 : ∀ s', At O g L m own s' → Q v s') : wpAny (Md w) A e Q E s :=
  wpAny_mono h1 (fun _ s' h => h.1 ▸ h2 s' h.2) fun _ _ e => e
theorem All2.unsnoc {α β : Type} {R : α → β → Prop} {l : List α} {l' : List β} {b : β} (h : All2 R l (l' ++ [b])) : ∃ k a, l = k ++ [a] ∧ All2 R k l' ∧ R a b := by
  induction l' generalizing l with
  | nil => cases h with
    | cons h t => cases t; exact ⟨[], _, rfl, .nil, h⟩
  | cons x l' ih => cases h with
    | cons h t => obtain ⟨k, a, rfl, q, r⟩ := ih t; exact ⟨_ :: k, a, rfl, .cons h q, r⟩
noncomputable def lastApp (xs : List (List Nat)) (d : List Nat) : List (List Nat) := xs.dropLast ++ [xs.getLastD [] ++ d]
noncomputable abbrev WSt := List (List Nat) × Bool × List Nat
noncomputable def stepW (st : WSt) (p : Mk) : WSt :=
  if (decide (st.2.2 = []) && (!p.2 && decide (p.1 ∈ [32, 9, 13, 10]))) = true then (st.1, false, st.2.2) else
  let xs := if st.2.1 = true then st.1 else st.1 ++ [[]]
  if (!p.2 && decide ([p.1] = st.2.2)) = true then (xs, true, [])
  else if (!p.2 && (decide (st.2.2 = []) && decide (p.1 ∈ [39, 34]))) = true then (xs, true, [p.1])
  else if (p.2 && (decide (st.2.2 = [39]) || (decide (st.2.2 = [34]) && !decide ([p.1] = [92])))) = true then (lastApp xs [92, p.1], true, st.2.2)
  else (lastApp xs [p.1], true, st.2.2)
noncomputable def runW (ps : List Mk) : WSt := ps.foldl stepW ([], false, [])
theorem lastApp_snoc (zs : List (List Nat)) (z d : List Nat) : lastApp (zs ++ [z]) d = zs ++ [z ++ d] := by
  unfold lastApp; rw [List.dropLast_concat, List.getLastD_concat]
structure WOk (n : Nat) (st : WSt) : Prop where
  ne : st.2.1 = true → st.1 ≠ []
  len : st.1.length ≤ n
  each : ∀ z ∈ st.1, z.length ≤ 2 * n
theorem WOk.lift {n : Nat} {st : WSt} (h : WOk n st) : (if st.2.1 = true then st.1 else st.1 ++ [[]]) ≠ [] ∧ (if st.2.1 = true then st.1 else st.1 ++ [[]]).length ≤ n + 1 ∧ ∀ z ∈ (if st.2.1 = true then st.1 else st.1 ++ [[]]), z.length ≤ 2 * n := by
  split
  · rename_i e; exact ⟨h.ne e, by have := h.len; lia, h.each⟩
  · refine ⟨by simp, by have := h.len; simp; lia, fun z hz => ?_⟩
    rcases List.mem_append.mp hz with hz | hz
    · exact h.each z hz
    · rw [List.mem_singleton.mp hz]; simp
theorem lastApp_ok {n : Nat} {xs : List (List Nat)} {d : List Nat} (h1 : xs ≠ []) (h2 : xs.length ≤ n + 1) (h3 : ∀ z ∈ xs, z.length ≤ 2 * n) (hd : d.length ≤ 2) : lastApp xs d ≠ [] ∧ (lastApp xs d).length ≤ n + 1 ∧ ∀ z ∈ lastApp xs d, z.length ≤ 2 * (n + 1) := by
  obtain ⟨zs, z, rfl⟩ : ∃ zs z, xs = zs ++ [z] := ⟨_, _, (List.dropLast_concat_getLast h1).symm⟩
  rw [lastApp_snoc]
  refine ⟨by simp, by simpa using h2, fun y hy => ?_⟩
  rcases List.mem_append.mp hy with hy | hy
  · have := h3 y (List.mem_append_left _ hy); lia
  · rw [List.mem_singleton.mp hy]; have := h3 z (by simp); simp; lia
theorem stepW_ok {n : Nat} {st : WSt} (h : WOk n st) (p : Mk) : WOk (n + 1) (stepW st p) := by
  obtain ⟨a1, a2, a3⟩ := h.lift
  have a3' : ∀ z ∈ (if st.2.1 = true then st.1 else st.1 ++ [[]]), z.length ≤ 2 * (n + 1) := fun z hz => by have := a3 z hz; lia
  unfold stepW
  split
  · exact ⟨fun e => by simp at e, by have := h.len; simp; lia, fun z hz => by have := h.each z hz; lia⟩
  dsimp only
  split
  · exact ⟨fun _ => a1, a2, a3'⟩
  split
  · exact ⟨fun _ => a1, a2, a3'⟩
  split
  · have := lastApp_ok a1 a2 a3 (d := [92, p.1]) (by simp)
    exact ⟨fun _ => this.1, this.2.1, this.2.2⟩
  · have := lastApp_ok a1 a2 a3 (d := [p.1]) (by simp)
    exact ⟨fun _ => this.1, this.2.1, this.2.2⟩
theorem runW_ok (ps : List Mk) : ∀ i, WOk i (runW (ps.take i)) := by
  intro i
  induction i with
  | zero => exact ⟨by simp [runW], by simp [runW], by simp [runW]⟩
  | succ i ih =>
    unfold runW at *
    rw [List.take_succ]
    cases e : ps[i]? with
    | none =>
      simp
      exact ⟨ih.ne, by have := ih.len; lia, fun z hz => by have := ih.each z hz; lia⟩
    | some p =>
      rw [List.foldl_append]
      exact stepW_ok ih p

inductive WoInv (s : Shared) (W : Addr) (ps : List Mk) (i : Nat) (g : Heap) (m : Str → Option Value) (own : Own) : Prop
  | mk (eg : g = s.heap) (ws : List Value) (tm : Tok) (eo : own = [(W, lst ws)]) (hS : StrsV ws (runW (ps.take i)).1) (m1 : m "words" = some (.ref W)) (m2 : m "begun" = some (.bool (runW (ps.take i)).2.1)) (m3 : m "mark" = some (.str (S (runW (ps.take i)).2.2) tm))
inductive WoTurn (O : OsState) (h : Heap) (L it W l : Addr) (i : Nat) (x : WSt) (f : Flow) (s2 : Shared) : Prop
  | mk (hf : f = .next ∨ f = .cont) (m' : Str → Option Value) (ws : List Value) (tm : Tok) (hS : StrsV ws x.1) (m1 : m' "words" = some (.ref W)) (m2 : m' "begun" = some (.bool x.2.1)) (m3 : m' "mark" = some (.str (S x.2.2) tm)) (C : At O h L m' [(it, lstIt l i), (W, lst ws)] s2)
inductive WoNew (O : OsState) (h : Heap) (L it W l : Addr) (i : Nat) (xs' : List (List Nat)) (mk : List Nat) (tm : Tok) (c : Nat) (tc : Tok) (sl : Bool) (f : Flow) (s2 : Shared) : Prop
  | mk (hf : f = .next) (m' : Str → Option Value) (ws' : List Value) (z : List Nat) (tz : Tok) (zs : List (List Nat)) (C : At O h L m' [(it, lstIt l i), (W, lst (ws' ++ [.str (S z) tz]))] s2) (hS : StrsV ws' zs) (ex : xs' = zs ++ [z])
    (n1 : m' "words" = some (.ref W)) (n2 : m' "begun" = some (.bool true)) (n3 : m' "mark" = some (.str (S mk) tm)) (n4 : m' "sign" = some (.str (S [c]) tc)) (n5 : m' "slashed" = some (.bool sl))
theorem spWords {w : World} {A : Around} {E : Value → Shared → Prop} {s : Shared} {h0 : Heap} {l : Addr} {vs : List Value} {ps : List Mk} {j : Nat} {Q : Value → Shared → Prop} (G : Gd w s.heap) (R : Rm j A) (hj : j ≤ 90) (hg : s.gens = #[]) (hx : ps.length ≤ 1000000)
    (hl : ListIn s.heap l vs) (hp : PairsN h0 s.heap vs ps)
    (h : ∀ v s', Keeps s.heap s'.heap → s'.os = s.os → s'.gens = #[] →
      (if (runW ps).2.2 = [] then ∃ a ws, v = .ref a ∧ ListIn s'.heap a ws ∧ StrsV ws (runW ps).1 ∧ s.heap.get? a = none else ∃ t, v = .str (S [78, 111, 32, 99, 108, 111, 115, 105, 110, 103, 32, 113, 117, 111, 116, 97, 116, 105, 111, 110]) t) → Q v s') : wpAny (Md w) A (call (.ref 817) [.ref l]) Q E s := by
  refine callK0 (binds := [("marked", .ref l)]) G R (by walk_at "om") (lk817 w) (cd817 w) (BindsTo.of_eq rfl) rfl (by kernel_rfl) rfl rfl rfl hg ?_
  intro L s' C _
  have R' := R.deeper (envOf "_law_words" (fnScope (stAt PG 37)) L 817 (.ref 816))
  walk_at "xs"
  walk_at "mms"
  refine wpAny_For ?_ (by intro _; rfl)
  walk_at "mms"
  rename At _ _ _ _ _ _ => C
  refine itL C (hl.keeps C.keep) ?_
  intro it s5 C5 _ _
  clear C
  rename_i W _ _ _ _ _ _ _ _ _ _ _ _ _ _
  have hn : vs.length = ps.length := hp.length
  walk_at "hr"
  refine forR (iterList w l vs) R'.handled (WoInv s W ps) (fun i g m own h => by obtain ⟨e, _⟩ := h; exact e ▸ hl) ?_ ?_ ⟨rfl, [], _, rfl, .nil, by walk_at "mm lk", by walk_at "mm lk", by walk_at "mm lk"⟩ C5
  · intro i g7 m7 own7 v s9 hi hv hI C9
    obtain ⟨rfl, ws, tm, rfl, hS, m1, m2, m3⟩ := hI
    obtain ⟨⟨c, sl⟩, ep, ⟨ai, tc, rfl, _, li⟩⟩ := hp.get hv
    have e1 : runW (ps.take (i + 1)) = stepW (runW (ps.take i)) (c, sl) := by
      unfold runW; rw [List.take_succ, ep, List.foldl_append]; rfl
    have ok := runW_ok ps i
    generalize runW (ps.take i) = st at *
    obtain ⟨xs, b, mk⟩ := st
    dsimp only at *
    have li : ListIn s.heap ai [.str (S [c]) tc, .bool sl] := li
    refine ownedNo C9 (.head _) ?_
    refine unpackL2 C9 R'.handled li ?_
    clear C9
    intro s10 C10
    generalize hst : stepW (xs, b, mk) (c, sl) = st' at *
    refine cutP (WoTurn s.os s.heap L it W l (i + 1) st') ?_ (fun f s2 hh => by
      obtain ⟨hf, m2, ws2, tm2, k1, k2, k3, k4, k5⟩ := hh
      rcases hf with rfl | rfl <;> exact ⟨_, m2, _, ⟨rfl, ws2, tm2, rfl, by rw [e1]; exact k1, k2, by rw [e1]; exact k3, by rw [e1]; exact k4⟩, k5⟩)
    walk_at "xs"
    refine wpAny_If ?_
    refine cutB C10 (decide (mk = []) && (!sl && decide (c ∈ [32, 9, 13, 10]))) ?_ ?_
    · walk_at "hx"
      walk_at "mms"
      refine br (fun q1 => ?_) (fun q1 => ?_)
      · walk_at "mms"
        refine brB (fun q2 => ?_) (fun q2 => ?_)
        · walk_at "mms"
          refine br (fun q3 => ?_) (fun q3 => ?_)
          · walk_at "mms"
            exact ⟨by rw [decide_eq_true q1, q2, decide_eq_true q3]; rfl, by assumption⟩
          · walk_at "mms"
            exact ⟨by rw [decide_eq_true q1, q2, decide_eq_false q3]; rfl, by assumption⟩
        · walk_at "mms"
          exact ⟨by rw [decide_eq_true q1, q2]; rfl, by assumption⟩
      · walk_at "mms"
        exact ⟨by rw [decide_eq_false q1]; rfl, by assumption⟩
    clear C10
    intro s11 C11
    refine brB (fun q0 => ?_) (fun q0 => ?_)
    · walk_at "mms"
      rename At _ _ _ _ _ _ => C
      have e2 : (xs, false, mk) = st' := by rw [← hst]; unfold stepW; rw [if_pos q0]
      subst e2
      exact ⟨by first | exact .inl rfl | exact .inr rfl, _, ws, tm, hS, by walk_at "mm lk", by walk_at "mm lk", by walk_at "mm lk", C⟩
    · have e2 : st' = (let xs' := if b = true then xs else xs ++ [[]]
          if (!sl && decide ([c] = mk)) = true then (xs', true, [])
          else if (!sl && (decide (mk = []) && decide (c ∈ [39, 34]))) = true then (xs', true, [c])
          else if (sl && (decide (mk = [39]) || (decide (mk = [34]) && !decide ([c] = [92])))) = true then (lastApp xs' [92, c], true, mk)
          else (lastApp xs' [c], true, mk)) := by rw [← hst]; unfold stepW; rw [if_neg (by rw [q0]; exact Bool.false_ne_true)]
      clear hst
      obtain ⟨a1, a2, a3⟩ := ok.lift
      dsimp only at a1 a2 a3 e2
      have hws : ws.length = xs.length := hS.length
      have okl := ok.len
      dsimp only at okl
      generalize hxs : (if b = true then xs else xs ++ [[]]) = xs' at *
      walk_at "xs"
      refine cutP (WoNew s.os s.heap L it W l (i + 1) xs' mk tm c tc sl) ?_ ?_
      · walk_at "hx"
        walk_at "mms"
        refine brB (fun q2 => ?_) (fun q2 => ?_)
        · obtain rfl : b = false := by simpa using q2
          simp only [Bool.false_eq_true, if_false] at hxs
          subst hxs
          walk_at "mms"
          refine ⟨rfl, _, ws, [], _, xs, by assumption, hS, rfl, ?_, ?_, ?_, ?_, ?_⟩
          all_goals walk_at "mm lk"
        · obtain rfl : b = true := by simpa using q2
          simp only [if_true] at hxs
          subst hxs
          walk_at "mms"
          obtain ⟨zs, z, rfl⟩ : ∃ zs z, xs = zs ++ [z] := ⟨_, _, (List.dropLast_concat_getLast a1).symm⟩
          obtain ⟨ws', v', rfl, hS1, tz, rfl⟩ : ∃ ws' v', ws = ws' ++ [v'] ∧ StrsV ws' zs ∧ SV v' z := All2.unsnoc hS
          refine ⟨rfl, _, ws', z, tz, zs, by assumption, hS1, rfl, ?_, ?_, ?_, ?_, ?_⟩
          all_goals walk_at "mm lk"
      · rintro fl s12 ⟨rfl, m', ws', z, tz, zs, C12, hS', rfl, n1, n2, n3, n4, n5⟩
        dsimp only
        have hz := a3 z (by simp)
        have hws' : ws'.length = zs.length := hS'.length
        simp only [List.length_append, List.length_cons, List.length_nil] at a2
        have fin : ∀ (z' mk' : List Nat) (s' : Shared) (m'' : Str → Option Value) (tz' tm' : Tok) (f : Flow), f = .next ∨ f = .cont → st' = (zs ++ [z'], true, mk') → At s.os s.heap L m'' [(it, lstIt l (i + 1)), (W, lst (ws' ++ [.str (S z') tz']))] s' → m'' "words" = some (.ref W) → m'' "begun" = some (.bool true) → m'' "mark" = some (.str (S mk') tm') →
            WoTurn s.os s.heap L it W l (i + 1) st' f s' :=
          fun z' mk' s' m'' tz' tm' f hf e C q1 q2 q3 => e ▸ ⟨hf, m'', _, _, hS'.append (.cons ⟨tz', rfl⟩ .nil), q1, q2, q3, C⟩
        rw [lastApp_snoc, lastApp_snoc] at e2
        walk_at "xs"
        refine wpAny_If ?_
        refine cutB C12 (!sl && decide ([c] = mk)) ?_ ?_
        · walk_at "hx"
          walk_at "mms"
          refine brB (fun q2 => ?_) (fun q2 => ?_)
          · walk_at "mms"
            refine br (fun q3 => ?_) (fun q3 => ?_)
            · walk_at "mms"
              exact ⟨by rw [q2, decide_eq_true q3]; rfl, by assumption⟩
            · walk_at "mms"
              exact ⟨by rw [q2, decide_eq_false q3]; rfl, by assumption⟩
          · walk_at "mms"
            exact ⟨by rw [q2]; rfl, by assumption⟩
        clear C12
        intro s13 C13
        refine brB (fun q4 => ?_) (fun q4 => ?_)
        · rw [if_pos q4] at e2
          walk_at "mms"
          refine fin z [] _ _ _ _ _ (by first | exact .inl rfl | exact .inr rfl) e2 (by assumption) ?_ ?_ (by walk_at "mm lk")
          all_goals walk_at "mm lk"
        rw [if_neg (by rw [q4]; exact Bool.false_ne_true)] at e2
        walk_at "xs"
        refine wpAny_If ?_
        refine cutB C13 (!sl && (decide (mk = []) && decide (c ∈ [39, 34]))) ?_ ?_
        · walk_at "hx"
          walk_at "mms"
          refine brB (fun q2 => ?_) (fun q2 => ?_)
          · walk_at "mms"
            refine br (fun q3 => ?_) (fun q3 => ?_)
            · walk_at "mms"
              refine br (fun q5 => ?_) (fun q5 => ?_)
              · walk_at "mms"
                exact ⟨by rw [q2, decide_eq_true q3, decide_eq_true q5]; rfl, by assumption⟩
              · walk_at "mms"
                exact ⟨by rw [q2, decide_eq_true q3, decide_eq_false q5]; rfl, by assumption⟩
            · walk_at "mms"
              exact ⟨by rw [q2, decide_eq_false q3]; rfl, by assumption⟩
          · walk_at "mms"
            exact ⟨by rw [q2]; rfl, by assumption⟩
        clear C13
        intro s14 C14
        refine brB (fun q6 => ?_) (fun q6 => ?_)
        · rw [if_pos q6] at e2
          walk_at "mms"
          refine fin z [c] _ _ _ _ _ (by first | exact .inl rfl | exact .inr rfl) e2 (by assumption) ?_ ?_ (by walk_at "mm lk")
          all_goals walk_at "mm lk"
        rw [if_neg (by rw [q6]; exact Bool.false_ne_true)] at e2
        walk_at "xs"
        refine wpAny_If ?_
        refine cutB C14 (sl && (decide (mk = [39]) || (decide (mk = [34]) && !decide ([c] = [92])))) ?_ ?_
        · walk_at "hx"
          walk_at "mms"
          refine brB (fun q2 => ?_) (fun q2 => ?_)
          · walk_at "mms"
            refine br (fun q3 => ?_) (fun q3 => ?_)
            · walk_at "mms"
              exact ⟨by rw [q2, decide_eq_true q3]; rfl, by assumption⟩
            · walk_at "mms"
              refine br (fun q5 => ?_) (fun q5 => ?_)
              · walk_at "mms"
                refine brB (fun q7 => ?_) (fun q7 => ?_)
                · walk_at "mms"
                  exact ⟨by rw [q2, decide_eq_false q3, decide_eq_true q5, q7]; rfl, by assumption⟩
                · walk_at "mms"
                  exact ⟨by rw [q2, decide_eq_false q3, decide_eq_true q5, q7]; rfl, by assumption⟩
              · walk_at "mms"
                exact ⟨by rw [q2, decide_eq_false q3, decide_eq_false q5]; rfl, by assumption⟩
          · walk_at "mms"
            exact ⟨by rw [q2]; rfl, by assumption⟩
        clear C14
        intro s15 C15
        refine brB (fun q8 => ?_) (fun q8 => ?_)
        · rw [if_pos q8] at e2
          walk_at "mms"
          refine fin (z ++ [92, c]) mk _ _ _ _ _ (by first | exact .inl rfl | exact .inr rfl) e2 (by assumption) ?_ ?_ (by walk_at "mm lk")
          all_goals walk_at "mm lk"
        · rw [if_neg (by rw [q8]; exact Bool.false_ne_true)] at e2
          walk_at "mms"
          refine fin (z ++ [c]) mk _ _ _ _ _ (by first | exact .inl rfl | exact .inr rfl) e2 (by assumption) ?_ ?_ (by walk_at "mm lk")
          all_goals walk_at "mm lk"
  · intro g7 m7 own7 s9 hI C9
    obtain ⟨rfl, ws, tm, rfl, hS, m1, m2, m3⟩ := hI
    rw [show ps.take vs.length = ps from List.take_of_length_le (by walk_at "om")] at *
    walk_at "mms"
    walk_at "mif"
    walk_at "mms"
    refine br (fun q => ?_) (fun q => ?_)
    · walk_at "mms"
      rename At _ _ _ _ _ _ => C
      refine h _ _ C.keep C.os C.gens ?_
      rw [if_pos q]
      exact ⟨W, ws, rfl, C.listIn (.head _), hS, (C.gown _ (.head _)).1⟩
    · walk_at "mms"
      rename At _ _ _ _ _ _ => C
      refine h _ _ C.keep C.os C.gens ?_
      rw [if_neg q]
      exact ⟨_, rfl⟩
end
-- MBm
section
open Builtin Builtin.ObjectAttr
noncomputable def bmP (D : Addr) : OP := fun o => o = { cls := .type "builtin_function_or_method", data := .fields #[.builtin "list.append", .ref D] }
theorem slot_mdget : Slot "method_descriptor" "__get__" "method_descriptor.__get__" :=
  .of (owner := "method_descriptor") (n := "__get__") (by rw [typeLookup_type, builtinLookup_eq_fast]; kernel_rfl) (by decide +kernel) (by decide +kernel) (by decide +kernel)
    (by first | exact .inl (by decide +kernel) | exact .inr (by decide +kernel)) (by rw [isSubtype_type]; kernel_rfl)
theorem entry_mdget : entryFor table "method_descriptor.__get__" = some Builtin.«method_descriptor.__get__» := entryFor_of_tree (by kernel_rfl)
theorem args_mdget (a b c : Value) : argsOk "method_descriptor.__get__" ⟨[a, b, c], []⟩ := by unfold argsOk; kernel_rfl
theorem spec_append_get : specialOf (.builtin "list.append") "__get__" = pure (some (.builtin "method_descriptor.__get__")) := by
  unfold specialOf
  rw [F.type_list_append]
  exact slot_mdget.lookup
theorem takes_append : takesStores (.builtin "list.append") = pure false := by kernel_rfl
section
variable {w : World} {A : Around} {E : Value → Shared → Prop} {O : OsState} {g : Heap} {L f : Addr} {m : Str → Option Value} {own own' : Own} {s : Shared} {D : Addr} {vs : List Value}
theorem mdgetAppend {Q : Value → Shared → Prop} (C : At O g L m own s) (h1 : (D, lst vs) ∈ own) (h : ∀ b s', At O g L m ((b, bmP D) :: own) s' → Q (.ref b) s') :
    wpAny (Md w) A (call (.builtin "method_descriptor.__get__") [.builtin "list.append", .ref D, .type "list"]) Q E s := by
  obtain ⟨o, ho, n, rfl⟩ := C.get h1
  have L1 : Looks (Md w) s.heap (typeOf (.ref D)) (.type "list") := (Looks.ld ho).andThen .now
  refine wpAny_call_entry slot_mdget rfl entry_mdget ?_ (args_mdget _ _ _)
  have k := h _ _ (C.push { cls := .type "builtin_function_or_method", data := .fields #[.builtin "list.append", .ref D] } rfl (P := bmP D) rfl)
  obtain ⟨hh, gg, d, t, os⟩ := s
  dsimp only at ho L1 k
  unfold Builtin.«method_descriptor.__get__»
  repeat lk
  exact ⟨_, rfl, k⟩
theorem findAppend {h' : Heap} (hl : ListIn h' D vs) : Looks (Md w) h' (find (.ref D) (.type "list") "append") (Found.bind (.builtin "method_descriptor.__get__") (.builtin "list.append")) := by
  obtain ⟨o, ho, n, rfl⟩ := hl
  intro A Q E s k q
  obtain ⟨hh, gg, d, t, os⟩ := s
  have ho' := k _ _ ho
  dsimp only at ho'
  have L1 : Looks (Md w) hh (typeOf (.ref D)) (.type "list") := (Looks.ld ho').andThen .now
  have L2 : Looks (Md w) hh (typeLookup (.type "list") "append") (some (.builtin "list.append")) := Looks.of_pure F.slot_list_append.lookup
  have L3 : Looks (Md w) hh (specialOf (.builtin "list.append") "__get__") (some (.builtin "method_descriptor.__get__")) := Looks.of_pure spec_append_get
  have L4 : Looks (Md w) hh (takesStores (.builtin "list.append")) false := Looks.of_pure takes_append
  unfold find
  refine wpAny_bind (Looks.at L2 ?_)
  refine wpAny_bind (m := getOf _) (Looks.at L3 ?_)
  refine wpAny_bind ?_
  show wpAny _ _ (takesStores _ >>= _) _ _ _
  refine wpAny_bind (Looks.at L4 ?_)
  repeat lk
  exact q
theorem getAppend {Q : Value → Shared → Prop} (C : At O g L m own s) (h1 : (D, lst vs) ∈ own) (h : ∀ b s', At O g L m ((b, bmP D) :: own) s' → Q (.ref b) s') :
    wpAny (Md w) A (getAttr (.ref D) "append" true) Q E s := by
  obtain ⟨o, ho, n, rfl⟩ := C.get h1
  unfold getAttr getAttrBy
  refine wpAny_bind (wpAny_mkText (wpAny_holding (wpAny_bind (wpAny_typeOf ⟨_, ho, rfl⟩ (wpAny_bind (wpAny_of_eq F.slot_list_getattribute.lookup ?_))))))
  show wpAny _ _ (getAttrByItsOwn _ _ _ _ _ _) _ _ _
  unfold getAttrByItsOwn
  refine wpAny_bind (m := hookBefore _) (wpAny_pure ?_)
  refine wpAny_bind (wpAny_attempt (wpAny_holding ?_))
  show wpAny _ _ (boundAndCalled _ _ _) _ _ _
  unfold boundAndCalled
  refine wpAny_bind (wpAny_of_eq (F.slot_list_getattribute.bind _) ?_)
  refine wpAny_call_entry F.slot_list_getattribute ⟨_, ho, rfl⟩ am_entry_list_getattribute ?_ (F.args_list_getattribute_2 _ _)
  have C1 := C.toks (s.toks + 1)
  have L1 : Looks (Md w) s.heap (typeOf (.ref D)) (.type "list") := (Looks.ld ho).andThen .now
  have L2 : Looks (Md w) s.heap (typeLookup (.type "list") "append") (some (.builtin "list.append")) := Looks.of_pure F.slot_list_append.lookup
  have L3 : Looks (Md w) s.heap (specialOf (.builtin "list.append") "__get__") (some (.builtin "method_descriptor.__get__")) := Looks.of_pure spec_append_get
  have L4 : Looks (Md w) s.heap (takesStores (.builtin "list.append")) false := Looks.of_pure takes_append
  obtain ⟨hh, gg, d, t, os⟩ := s
  dsimp only at ho L1 L2 L3 L4 C1
  unfold Builtin.«object.__getattribute__»
  show wpAny _ _ (typeOf (.ref D) >>= _) _ _ _
  refine wpAny_bind (Looks.at L1 ?_)
  refine wpAny_bind (Looks.at (findAppend (w := w) (h' := hh) ⟨_, ho, _, rfl⟩) ?_)
  show wpAny _ _ (bindTo _ _ _ _) _ _ _
  show wpAny _ _ (holding [_] (call (.builtin "method_descriptor.__get__") [.builtin "list.append", .ref D, .type "list"]) >>= ret) _ _ _
  exact wpAny_bind (wpAny_holding (mdgetAppend C1 h1 (fun b s' C' => wpAny_pure ⟨_, rfl, wpAny_pure (h b s' C')⟩)))
theorem kind_append : builtinKind "list.append" = some .method := by decide +kernel
theorem checkApp {h' : Heap} {x : Value} (hl : ListIn h' D vs) : Looks (Md w) h' (checkBoundCall "list.append" ⟨[.ref D, x], []⟩) () := by
  obtain ⟨o, ho, n, rfl⟩ := hl
  intro A Q E s k q
  have ho' := k _ _ ho
  have hT : s.TypeIs (.ref D) "list" := ⟨_, ho', rfl⟩
  unfold checkBoundCall
  rw [signature?_of (id := "list.append") (n := ['d', 'n', 'e', 'p', 'p', 'a']) (o := ['t', 's', 'i', 'l']) (by kernel_rfl) F.owner_list]
  rw [kind_append]
  have hs : (List.lookup (String.ofList ['d', 'n', 'e', 'p', 'p', 'a'].reverse) Manifest.sig_list).isSome = true := by kernel_rfl
  have e : ∀ sig, List.lookup (String.ofList ['d', 'n', 'e', 'p', 'p', 'a'].reverse) Manifest.sig_list = some sig → Bind.checkArgs "list.append" { sig with full := s!"{Bind.lastOf "list"}.{Bind.lastOf "list.append"}" } ⟨[.ref D, x], []⟩ = pure () := by
    intro sig hsig
    have : some (Bind.checkArgs "list.append" { sig with full := s!"{Bind.lastOf "list"}.{Bind.lastOf "list.append"}" } ⟨[.ref D, x], []⟩) = (List.lookup (String.ofList ['d', 'n', 'e', 'p', 'p', 'a'].reverse) Manifest.sig_list).map fun sig => Bind.checkArgs "list.append" { sig with full := s!"{Bind.lastOf "list"}.{Bind.lastOf "list.append"}" } ⟨[.ref D, x], []⟩ := by rw [hsig]; rfl
    refine Option.some.inj (this.trans ?_)
    kernel_rfl
  cases hsig : List.lookup (String.ofList ['d', 'n', 'e', 'p', 'p', 'a'].reverse) Manifest.sig_list with
  | none => rw [hsig] at hs; cases hs
  | some sig =>
    show wpAny _ _ (isInstance (.ref D) (.type "module") >>= _) _ _ _
    refine wpAny_bind (wpAny_isInstance hT (b := false) (by rw [isSubtype_type]; kernel_rfl) ?_)
    rw [if_neg (by decide +kernel)]
    obtain ⟨hh, gg, d, t, os⟩ := s
    dsimp only at ho'
    have L1 : Looks (Md w) hh (isType (.ref D)) false := (Looks.ld ho').andThen .now
    refine wpAny_bind (Looks.at L1 ?_)
    rw [if_neg Bool.false_ne_true]
    refine wpAny_bind (wpAny_typeOf ⟨_, ho', rfl⟩ ?_)
    show wpAny _ _ (Bind.checkArgs _ _ _) _ _ _
    exact wpAny_of_eq (e sig hsig) q
theorem callBm {b : Addr} {x : Value} {Q : Value → Shared → Prop} (C : At O g L m own s) (hb : (b, bmP D) ∈ own) (u : Upd D (lst vs) (lst (vs ++ [x])) own own') (hsz : vs.length ≤ sizeLine) (h : ∀ s', At O g L m own' s' → Q .none s') :
    wpAny (Md w) A (call (.ref b) [x]) Q E s := by
  obtain ⟨o, ho, rfl⟩ := C.get hb
  refine wpAny_call ?_
  refine codeAny_of_tree ?_
  have C0 := C
  have hD := C.listIn u.mem
  obtain ⟨oD, hoD, nD, roD⟩ := hD
  obtain ⟨hh, gg, d, t, os⟩ := s
  dsimp only at ho hoD
  have L1 : Looks (Md w) hh (typeOf (.ref D)) (.type "list") := (Looks.ld hoD).andThen (by rw [roD]; exact .now)
  show wpAny _ _ (load b >>= _) _ _ _
  refine wpAny_bind (wpAny_load ho ?_)
  show wpAny _ _ (checkBoundCall "list.append" ⟨[.ref D, x], []⟩ >>= fun _ => again (.builtin "list.append" ⟨[.ref D, x], []⟩)) _ _ _
  refine wpAny_bind (Looks.at (checkApp (w := w) (h' := hh) (C.listIn u.mem)) ?_)
  refine wpAny_pure ⟨plainId_quiet F.slot_list_append.plain _, ?_⟩
  refine codeAny_builtin entry_list_append ?_
  rw [Around.under_plainId F.slot_list_append.plain _]
  show wpAny _ _ (updateSeq D (·.push x) >>= fun _ => ret .none) _ _ _
  refine wpAny_bind ?_
  have hd : oD.data = .seq vs.toArray nD := by rw [roD]
  refine wpAny_updateSeq hoD hd (wpAny_pure (h _ (C.upd u (Heap.SameBut.update ..) ?_ t))) (by simpa using hsz) (by simp only [Array.size_push, List.size_toArray]; lia)
  obtain ⟨n', hd'⟩ := Obj.data_mapSeq hd (·.push x)
  refine ⟨_, Heap.get?_update_self _ hoD (Obj.isFreed_of_seq hd'), ?_⟩
  rw [roD]
  exact ⟨_, by simp [Obj.mapSeq]; rfl⟩
end
end
-- MAsg
section
section
variable {w : World} {A : Around} {E : Value → Shared → Prop} {O : OsState} {g : Heap} {L f : Addr} {m : Str → Option Value} {own own' : Own} {s : Shared} {D b : Addr} {vs : List Value}
theorem asgT2 {env : Env} {n1 n2 : Str} {p1 p2 tpos pos vpos : Pos} {x1 k2} {e1 e2 : Expr} {Q : Flow → Shared → Prop} (hh : A.handled = none)
    (h : wpAny (Md w) A (eval e1 env) (fun v1 s1 => wpAny (Md w) A (eval e2 env) (fun v2 s2 => ∃ O g m own, At O g env.locals m own s2 ∧ ∀ s', At O g env.locals (upd (upd m n2 v2) n1 v1) own s' → Q .next s') E s1) E s)
    (hs : swapsWithSole [.Tuple [.Name n1 p1, .Name n2 p2] x1 tpos] (.Tuple [e1, e2] k2 vpos) pos.line env = pure false := by rfl)
    (hw : swappedStores [.Tuple [.Name n1 p1, .Name n2 p2] x1 tpos] (.Tuple [e1, e2] k2 vpos) env = pure (some [n1, n2]) := by rfl)
    (q1 : starEach [e1, e2] env = (false, eval e1 env) :: starEach [e2] env := by rfl) (q2 : starEach [e2] env = (false, eval e2 env) :: starEach [] env := by rfl)
    (hk : env.scope.kind = .function := by rfl) (h1 : env.kindOf n1 = some .local := by rfl) (h2 : env.kindOf n2 = some .local := by rfl) :
    wpAny (Md w) A (exec (.Assign [.Tuple [.Name n1 p1, .Name n2 p2] x1 tpos] (.Tuple [e1, e2] k2 vpos) pos) env) Q E s := by
  refine Assign_Tuple_swapped (names := [n1, n2]) (Tuple_ (spliced_more (wpAny_mono h (fun v1 s1 h1' => spliced_more (wpAny_mono h1' (fun v2 s2 h2' => args_nil ?_) fun _ _ e => e) q2) fun _ _ e => e) q1)) hs hw
  obtain ⟨O, g, m, own, C, k⟩ := h2'
  refine wpAny_newObj_type ?_ (by show (2 : Nat) ≤ sizeLine; unfold sizeLine; lia)
  have C1 := C.push { cls := .type "tuple", data := .seq [v1, v2].toArray } rfl (P := fun _ => True) trivial
  refine wpAny_unpackItems_tuple (items := [v1, v2].toArray) hh ⟨_, Heap.get?_push_size _ rfl, rfl, 0, rfl⟩ (fun h' he => ?_)
  have C2 : At O g env.locals m own { s2 with heap := h' } := by
    refine (C.grow (s' := { s2 with heap := h' }) (fun b o e => ?_) rfl rfl)
    refine he b o ?_ (Heap.get?_push_of_some _ e)
    have := Heap.lt_size e
    show b ≠ (Heap.push _ _).objs.size
    rw [Heap.size_push]
    exact Nat.ne_of_lt (Nat.lt_succ_of_lt this)
  show wpAny _ _ (assignInOrder [bindName env n2, bindName env n1] [v2, v1]) _ _ _
  refine assignInOrder_cons (bindName_ (stL C2 (fun s5 C5 => ?_) hk h2))
  refine assignInOrder_cons (bindName_ (stL C5 (fun s6 C6 => ?_) hk h1))
  exact assignInOrder_nil (k _ C6)
theorem mxBm {P : Prop} (C : At O g L m own s) (hb : (b, bmP D) ∈ own) (h : P) : (∃ o, s.heap.get? b = some o ∧ bmP D o) ∧ P := ⟨C.get hb, h⟩
theorem callWithBm {env : Env} {pos : Pos} {e : Expr} {rest : List Expr} {Q : Value → Shared → Prop} (_C : At O g L m own s) (_hb : (b, bmP D) ∈ own)
    (h : wpAny (Md w) A (spliced (backTo pos (starEach (e :: rest) env))) (fun vs s₁ => (∃ o, s₁.heap.get? b = some o ∧ bmP D o) ∧ wpAny (Md w) A (call (.ref b) ([] ++ vs)) Q E s₁) E s)
    (he : starEach (e :: rest) env = (false, eval e env) :: starEach rest env := by rfl) (hplain : (backTo pos (starEach rest env)).any (·.1) = false := by rfl) :
    wpAny (Md w) A (callWith pos (.ref b) [] (backTo pos (starEach (e :: rest) env)) []) Q E s := by
  rw [he] at h ⊢
  refine callWith_of (P := fun h => ∃ o, h.get? b = some o ∧ bmP D o) (by show ((false || (backTo pos (starEach rest env)).any (·.1)) || false) = false; rw [hplain]; rfl) (fun h ⟨o, ho, e⟩ => ⟨.machine, .inr (.inl rfl), ?_⟩) (evalArgs_plain h)
  unfold bmP at e
  subst e
  exact (Looks.ld (part := none) ho).andThen .now
noncomputable def glue (sep : List Nat) : List (List Nat) → List Nat
  | [] => []
  | [x] => x
  | x :: y :: r => x ++ sep ++ glue sep (y :: r)
theorem glue_join (sep : List Nat) : ∀ xs : List (List Nat), Str.join (S sep) (xs.map S) = S (glue sep xs)
  | [] => rfl
  | [x] => rfl
  | x :: y :: r => by
    have := glue_join sep (y :: r)
    show S x ++ S sep ++ Str.join (S sep) ((y :: r).map S) = _
    rw [this, S_app, S_app]; rfl
theorem glue_nil : ∀ xs : List (List Nat), glue [] xs = xs.flatten
  | [] => rfl
  | [x] => by simp [glue]
  | x :: y :: r => by rw [glue, glue_nil (y :: r)]; simp
theorem strsAre_of : ∀ {vs : List Value} {xs : List (List Nat)}, StrsV vs xs → StrsAre vs (xs.map S) := by
  intro vs xs h
  induction h with
  | nil => exact .nil
  | cons h _ ih => obtain ⟨t, rfl⟩ := h; exact .cons _ _ ih
theorem joinS {sep : List Nat} {t : Tok} {xs : List (List Nat)} {Q : Value → Shared → Prop} (C : At O g L m own s) (hl : ListIn s.heap D vs) (hv : StrsV vs xs) (hsz : (xs.map (·.length)).sum + xs.length * sep.length ≤ 16777216)
    (h : ∀ t s', At O g L m own s' → Q (.str (S (glue sep xs)) t) s') : wpAny (Md w) A (call (.builtin "str.join") [.str (S sep) t, .ref D]) Q E s := by
  refine PyProof.Rows.join_list hl.isList (ys := xs.map S) (strsAre_of hv) ?_ (fun t' k => ?_)
  · have : ((xs.map S).map (·.length)) = xs.map (·.length) := by simp [Str.length]
    rw [this, S_len, List.length_map]; exact hsz
  · have e : Txt.join (S sep) (xs.map S) = S (glue sep xs) := by rw [← glue_join]; exact StrLaws.glued_eq_join _ _
    rw [e]; exact h _ _ (C.toks k)
theorem fS3 {env : Env} {a b : Str} {la lb : List Nat} {k1 k2} {p1 p2 p3 pos : Pos} {e : Expr} {Q : Value → Shared → Prop} (ha : a = S la) (hb : b = S lb) (hla : la.length ≤ sizeLine) (C : At O g L m own s)
    (h : ∀ s1, At O g L m own s1 → wpAny (Md w) A (eval e env) (fun v s' => ∃ O g L m own y t, v = .str (S y) t ∧ At O g L m own s' ∧ la.length + y.length + lb.length ≤ sizeLine ∧ ∀ t s'', At O g L m own s'' → Q (.str (S (la ++ y ++ lb)) t) s'') E s1) :
    wpAny (Md w) A (eval (.JoinedStr [.Constant (.str a) k1 p1, .FormattedValue e (-1) none p2, .Constant (.str b) k2 p3] pos) env) Q E s := by
  subst ha hb
  refine wpAny_JoinedStr ?_
  have e0 : Str.empty ++ S la = S la := S_app [] la
  show wpAny _ _ (eval (.Constant (.str (S la)) k1 p1) env) _ _ _
  have C1 := C.toks (s.toks + 1)
  have hk := h _ C1
  refine wpAny_Constant_str ?_
  refine ⟨_, _, rfl, ?_, ?_⟩
  · rw [e0, S_len]; exact hla
  rw [e0]
  show wpAny _ _ (eval (.FormattedValue e (-1) none p2) env) _ _ _
  refine wpAny_FormattedValue_plain (wpAny_mono hk (fun v s' h' => ?_) fun _ _ e => e)
  obtain ⟨O, g, L, m, own, y, t, rfl, C2, hs, k⟩ := h'
  have fin : ∀ (s3 : Shared) (t : Tok), At O g L m own s3 → ∃ y' t', Value.str (S y) t = .str y' t' ∧ (S la ++ y').length ≤ sizeLine ∧ Joins (Md w) A E [eval (.Constant (.str (S lb)) k2 p3) env] (S la ++ y') (fun out s₁ => out.length ≤ sizeLine ∧ Q (.str out s₁.toks) { s₁ with toks := s₁.toks + 1 }) s3 := by
    intro s3 t C3
    refine ⟨_, _, rfl, by rw [S_app, S_len, List.length_append]; lia, ?_⟩
    rw [S_app]
    show wpAny _ _ (eval (.Constant (.str (S lb)) k2 p3) env) _ _ _
    refine wpAny_Constant_str ⟨_, _, rfl, by rw [S_app, S_len, List.length_append, List.length_append]; lia, ?_⟩
    rw [S_app]
    exact ⟨by rw [S_len, List.length_append, List.length_append]; lia, k _ _ ((C3.toks _).toks _)⟩
  exact wpAny_formatField_str (fin _ _ C2) (fin _ _ (C2.toks _)) (by rw [S_len]; lia)
end
end
-- MJoin
section
noncomputable abbrev Part := Option (List Nat)
noncomputable def PartV (ST : Addr) (v : Value) : Part → Prop
  | none => v = .ref ST
  | some l => SV v l
noncomputable abbrev PartsV (ST : Addr) : List Value → List Part → Prop := All2 (PartV ST)
noncomputable def enc : List (List (List Nat)) → List Part
  | [] => []
  | g :: r => none :: (g.map some ++ enc r)
noncomputable def midT (g : List (List Nat)) : List Nat := [40, 63, 62, 46, 42, 63] ++ g.flatten ++ [41]
noncomputable def outR : List (List (List Nat)) → List Nat
  | [] => []
  | [g] => [46, 42] ++ g.flatten
  | g :: g' :: r => midT g ++ outR (g' :: r)
noncomputable def okG : List (List (List Nat)) → Prop
  | [] => True
  | [_] => True
  | g :: g' :: r => g ≠ [] ∧ okG (g' :: r)
noncomputable def joined (s0 : List (List Nat)) (gs : List (List (List Nat))) : List Nat := [40, 63, 115, 58] ++ (s0.flatten ++ outR gs) ++ [41, 92, 90]
theorem enc_len : ∀ gs : List (List (List Nat)), gs.length ≤ (enc gs).length
  | [] => Nat.le_refl _
  | g :: r => by have := enc_len r; simp [enc]; lia
theorem outR_len : ∀ gs : List (List (List Nat)), (outR gs).length ≤ (gs.map List.flatten).flatten.length + 7 * gs.length
  | [] => by simp [outR]
  | [g] => by simp [outR]
  | g :: g' :: r => by
    have := outR_len (g' :: r)
    simp only [outR, midT, List.length_append, List.map_cons, List.flatten_cons, List.length_cons, List.length_nil] at this ⊢; lia
theorem isNotStar {w : World} {A : Around} {E : Value → Shared → Prop} {s : Shared} {ST : Addr} {v : Value} {x : Part} {Q : Value → Shared → Prop} (hv : PartV ST v x) (h : Q (.bool x.isSome) s) : wpAny (Md w) A (compareOp .IsNot v (.ref ST)) Q E s := by
  cases x with
  | none => obtain rfl := hv; exact wpAny_isNot_ref_self h
  | some l => obtain ⟨t, rfl⟩ := hv; exact wpAny_isNot_other rfl (fun e => by cases e) h
theorem isStar {w : World} {A : Around} {E : Value → Shared → Prop} {s : Shared} {ST : Addr} {v : Value} {x : Part} {Q : Value → Shared → Prop} (hv : PartV ST v x) (h : Q (.bool (!x.isSome)) s) : wpAny (Md w) A (compareOp .Is v (.ref ST)) Q E s := by
  cases x with
  | none => obtain rfl := hv; exact wpAny_is_ref_self h
  | some l => obtain ⟨t, rfl⟩ := hv; exact wpAny_is_other rfl (fun e => by cases e) h

inductive JoA (s : Shared) (s0 : List (List Nat)) (vs : List Value) (l ST bm D : Addr) (tn : Tok) (k : Nat) (g : Heap) (m : Str → Option Value) (own : Own) : Prop
  | mk (eg : g = s.heap) (i : Nat) (rs : List Value) (ti : Tok) (e : k = s0.length - i) (hi : i ≤ s0.length) (eo : own = [(bm, bmP D), (D, lst rs)]) (hS : StrsV rs (s0.take i)) (m1 : m "i" = some (.int (i : Nat) ti)) (m2 : m "n" = some (.int (vs.length : Nat) tn)) (m3 : m "inp" = some (.ref l)) (m4 : m "STAR" = some (.ref ST)) (m5 : m "add" = some (.ref bm)) (m6 : m "res" = some (.ref D))
inductive JoB (s : Shared) (s0 : List (List Nat)) (gs : List (List (List Nat))) (ts : List Part) (vs : List Value) (l ST bm D : Addr) (tn : Tok) (k : Nat) (g : Heap) (m : Str → Option Value) (own : Own) : Prop
  | mk (eg : g = s.heap) (i : Nat) (rs : List Value) (xs : List (List Nat)) (rest : List (List (List Nat))) (ti : Tok) (e : k = rest.length) (hi : i ≤ vs.length) (eo : own = [(bm, bmP D), (D, lst rs)]) (hS : StrsV rs xs) (hT : ts.drop i = enc rest) (hok : okG rest) (hX : xs.flatten ++ outR rest = s0.flatten ++ outR gs)
    (htl : (rest.map List.flatten).flatten.length ≤ 500000) (hxl : xs.length ≤ i) (m1 : m "i" = some (.int (i : Nat) ti)) (m2 : m "n" = some (.int (vs.length : Nat) tn)) (m3 : m "inp" = some (.ref l)) (m4 : m "STAR" = some (.ref ST)) (m5 : m "add" = some (.ref bm)) (m6 : m "res" = some (.ref D))
inductive JoC (s : Shared) (g : List (List Nat)) (rs : List Value) (vs : List Value) (l ST bm D : Addr) (tn : Tok) (i k : Nat) (g' : Heap) (m : Str → Option Value) (own : Own) : Prop
  | mk (eg : g' = s.heap) (jj : Nat) (F : Addr) (fs : List Value) (ti : Tok) (e : k = g.length - jj) (hjj : jj ≤ g.length) (eo : own = [(F, lst fs), (bm, bmP D), (D, lst rs)]) (hFs : StrsV fs (g.take jj)) (m1 : m "i" = some (.int ((i + 1 + jj : Nat) : Int) ti)) (m0 : m "fixed" = some (.ref F)) (m2 : m "n" = some (.int (vs.length : Nat) tn)) (m3 : m "inp" = some (.ref l)) (m4 : m "STAR" = some (.ref ST)) (m5 : m "add" = some (.ref bm)) (m6 : m "res" = some (.ref D))
inductive JoP (O : OsState) (h : Heap) (L : Addr) (xs0 : List (List Nat)) (vs : List Value) (l ST bm D : Addr) (tn : Tok) (fl : Flow) (s' : Shared) : Prop
  | mk (hf : fl = .next) (m : Str → Option Value) (rs : List Value) (ti : Tok) (C : At O h L m [(bm, bmP D), (D, lst rs)] s') (hS : StrsV rs xs0) (m1 : m "i" = some (.int ((xs0.length : Nat) : Int) ti)) (m2 : m "n" = some (.int (vs.length : Nat) tn)) (m3 : m "inp" = some (.ref l)) (m4 : m "STAR" = some (.ref ST)) (m5 : m "add" = some (.ref bm)) (m6 : m "res" = some (.ref D))
inductive JoQ (O : OsState) (h : Heap) (L : Addr) (txt : List Nat) (n : Nat) (bm D : Addr) (tn : Tok) (fl : Flow) (s' : Shared) : Prop
  | mk (hf : fl = .next) (m : Str → Option Value) (rs : List Value) (xs : List (List Nat)) (ti : Tok) (C : At O h L m [(bm, bmP D), (D, lst rs)] s') (hS : StrsV rs xs) (hx : xs.flatten = txt) (hl : xs.length ≤ n) (m1 : m "i" = some (.int (n : Nat) ti)) (m2 : m "n" = some (.int (n : Nat) tn)) (m6 : m "res" = some (.ref D))
inductive JoR (O : OsState) (h : Heap) (L : Addr) (g : List (List Nat)) (i : Nat) (rs vs : List Value) (l ST bm D : Addr) (tn : Tok) (fl : Flow) (s' : Shared) : Prop
  | mk (hf : fl = .next) (m : Str → Option Value) (F : Addr) (fs : List Value) (ti : Tok) (C : At O h L m [(F, lst fs), (bm, bmP D), (D, lst rs)] s') (hS : StrsV fs g) (m1 : m "i" = some (.int ((i + 1 + g.length : Nat) : Int) ti)) (m0 : m "fixed" = some (.ref F)) (m2 : m "n" = some (.int (vs.length : Nat) tn)) (m3 : m "inp" = some (.ref l)) (m4 : m "STAR" = some (.ref ST)) (m5 : m "add" = some (.ref bm)) (m6 : m "res" = some (.ref D))
theorem spJoin {w : World} {A : Around} {E : Value → Shared → Prop} {s : Shared} {l ST : Addr} {vs : List Value} {s0 : List (List Nat)} {gs : List (List (List Nat))} {j : Nat} {Q : Value → Shared → Prop} (G : Gd w s.heap) (R : Rm j A) (hj : j ≤ 90) (hg : s.gens = #[])
    (hl : ListIn s.heap l vs) (hv : PartsV ST vs (s0.map some ++ enc gs)) (hok : okG gs) (hx : vs.length ≤ 500000) (ht : (s0.flatten ++ (gs.map List.flatten).flatten).length ≤ 500000)
    (h : ∀ t s', Keeps s.heap s'.heap → s'.os = s.os → s'.gens = #[] → Q (.str (S (joined s0 gs)) t) s') : wpAny (Md w) A (call (.ref 82) [.ref l, .ref ST]) Q E s := by
  refine callK0 (binds := [("inp", .ref l), ("STAR", .ref ST)]) G R (by walk_at "om") (lk82 w) (cd82 w) (BindsTo.of_eq rfl) rfl (by kernel_rfl) rfl rfl rfl hg ?_
  intro L s' C _
  have R' := R.deeper (envOf "_join_translated_parts" (fnScope (stAt PG 11)) L 82 (.ref 81))
  walk_at "xs"
  walk_at "mms"
  refine asgT2 R'.handled ?_
  walk_at "mms"
  rename At _ _ _ _ _ _ => C
  have hn : vs.length = s0.length + (enc gs).length := by rw [hv.length]; simp
  refine lenL C (hl.keeps C.keep) (by walk_at "sz") ?_
  clear C
  intro tn s1 C _
  walk_at "mms"
  refine ⟨_, _, _, _, C, ?_⟩
  clear C
  intro s2 C
  walk_at "mms"
  rename At _ _ _ _ _ _ => C
  have n0 := (C.gown _ (.head _)).1
  rename_i D _ _ _ _ bm _ _ _ _ _ _ _
  generalize hs0 : s0.map some ++ enc gs = ts at *
  have hts : ts.length = vs.length := hv.length.symm
  refine cutP (JoP s.os s.heap L s0 vs l ST bm D tn) ?_ ?_
  · walk_at "hx"
    skip
    refine wpAny_While ?_
    walk_at "hr"
    refine whileR (JoA s s0 vs l ST bm D tn) ?_ s0.length ?_ C
    · intro k g m own s3 hI C3
      obtain ⟨rfl, i, rs, ti, rfl, hi, rfl, hS, m1, m2, m3, m4, m5, m6⟩ := hI
      have hS' := hS.length
      rw [List.length_take, Nat.min_eq_left hi] at hS'
      walk_at "hw"
      walk_at "mms"
      refine br (fun q => ?_) (fun q => ?_)
      · obtain ⟨x, hx2⟩ : ∃ x, ts[i]? = some x := ⟨_, List.getElem?_eq_getElem (by walk_at "om")⟩
        obtain ⟨v, hv2⟩ : ∃ v, vs[i]? = some v := ⟨_, List.getElem?_eq_getElem q⟩
        have hpx : PartV ST v x := by obtain ⟨y, e1, e2⟩ := hv.get hv2; rw [hx2] at e1; cases e1; exact e2
        walk_at "mms"
        rename At _ _ _ _ _ _ => C
        refine idxL (hl.keeps C.keep) hv2 (by walk_at "sz") ?_
        walk_at "mms"
        refine isNotStar hpx ?_
        walk_at "mms"
        refine brB (fun q2 => ?_) (fun q2 => ?_)
        · walk_at "mms"
          rename At _ _ _ _ _ _ => C
          refine idxL (hl.keeps C.keep) hv2 (by walk_at "sz") ?_
          walk_at "mms"
          rename At _ _ _ _ _ _ => C
          have hi2 : i < s0.length := by
            rcases Nat.lt_or_ge i s0.length with q3 | q3
            · exact q3
            · exfalso
              obtain rfl : i = s0.length := by lia
              have e0 : ts[s0.length]? = (enc gs)[0]? := by rw [← hs0, List.getElem?_append_right (by simp)]; simp
              rw [e0] at hx2
              cases gs with
              | nil => simp [enc] at hx2
              | cons g r => simp [enc] at hx2; subst hx2; simp at q2
          have ex : x = some s0[i] := by
            have : ts[i]? = some (some s0[i]) := by rw [← hs0, List.getElem?_append_left (by simp; exact hi2)]; simp [hi2]
            rw [hx2] at this; exact Option.some.inj this
          subst ex
          obtain ⟨tv, rfl⟩ := hpx
          refine ⟨s0.length - (i + 1), s.heap, _, [(bm, bmP D), (D, lst (rs ++ [_]))], by walk_at "om", ⟨rfl, i + 1, _, _, rfl, hi2, rfl, ?_, by walk_at "mm lk", ?_, ?_, ?_, ?_, ?_⟩, C⟩
          · have e : s0.take (i + 1) = s0.take i ++ [s0[i]] := by rw [List.take_succ, List.getElem?_eq_getElem hi2]; rfl
            rw [e]; exact hS.append (.cons ⟨tv, rfl⟩ .nil)
          all_goals walk_at "mm lk"
        · -- a star stands there
          walk_at "mms"
          obtain rfl : x = none := by cases x <;> simp at q2 ⊢
          have hi2 : i = s0.length := by
            rcases Nat.lt_or_ge i s0.length with q3 | q3
            · exfalso
              have : ts[i]? = some (some s0[i]) := by rw [← hs0, List.getElem?_append_left (by simp; exact q3)]; simp [q3]
              rw [hx2] at this; cases this
            · lia
          subst hi2
          rw [List.take_length] at hS
          exact ⟨rfl, _, rs, ti, by assumption, hS, m1, m2, m3, m4, m5, m6⟩
      · walk_at "mms"
        obtain rfl : i = s0.length := by lia
        rw [List.take_length] at hS
        exact ⟨rfl, _, rs, ti, by assumption, hS, m1, m2, m3, m4, m5, m6⟩
    · refine ⟨rfl, 0, [], _, rfl, Nat.zero_le _, rfl, .nil, (by walk_at "mm lk"), ?_, ?_, ?_, ?_, ?_⟩
      all_goals walk_at "mm lk"
  · rintro fl s4 ⟨rfl, m, rs, ti, C4, hS, m1, m2, m3, m4, m5, m6⟩
    dsimp only
    clear C
    walk_at "xs"
    refine cutP (JoQ s.os s.heap L (s0.flatten ++ outR gs) vs.length bm D tn) ?_ ?_
    · walk_at "hx"
      refine wpAny_While ?_
      have hd0 : ts.drop s0.length = enc gs := by rw [← hs0, List.drop_append_of_le_length (by simp)]; simp
      walk_at "hr"
      refine whileR (JoB s s0 gs ts vs l ST bm D tn) ?_ gs.length ?_ C4
      · intro k g m own s5 hI C5
        obtain ⟨rfl, i, rs, xs, rest, ti, rfl, hi, rfl, hS, hT, hok2, hX, htl, hxl, m1, m2, m3, m4, m5, m6⟩ := hI
        have hrs : rs.length = xs.length := hS.length
        clear C4
        walk_at "hw"
        walk_at "mms"
        refine br (fun q => ?_) (fun q => ?_)
        · cases rest with
          | nil =>
            exfalso
            have := congrArg List.length hT
            rw [List.length_drop] at this; simp [enc] at this; lia
          | cons g r =>
          have hti : ts[i]? = some none := by
            have := congrArg (·[0]?) hT
            simpa [enc, List.getElem?_drop] using this
          obtain ⟨v, hv2⟩ : ∃ v, vs[i]? = some v := ⟨_, List.getElem?_eq_getElem q⟩
          have hpx : PartV ST v none := by obtain ⟨y, e1, e2⟩ := hv.get hv2; rw [hti] at e1; cases e1; exact e2
          have hT1 : ts.drop (i + 1) = g.map some ++ enc r := by
            rw [← List.drop_drop, hT]; rfl
          have hlen1 : vs.length = i + 1 + g.length + (enc r).length := by
            have := congrArg List.length hT1
            rw [List.length_drop] at this; simp at this; lia
          walk_at "mms"
          rename At _ _ _ _ _ _ => C
          refine idxL (hl.keeps C.keep) hv2 (by walk_at "sz") ?_
          walk_at "mms"
          refine isStar hpx ?_
          walk_at "mms"
          refine ⟨rfl, ?_⟩
          dsimp only
          walk_at "mms"
          have hr0 : ∀ r : List (List (List Nat)), (enc r).length = 0 → r = [] := by
            intro r h; cases r with
            | nil => rfl
            | cons _ _ => simp [enc] at h
          refine br (fun q2 => ?_) (fun q2 => ?_)
          · obtain rfl : r = [] := hr0 r (by walk_at "om")
            obtain rfl : g = [] := List.length_eq_zero_iff.mp (by simp [enc] at hlen1; lia)
            walk_at "mms"
            rename At _ _ _ _ _ _ => C
            refine ⟨rfl, _, _, xs ++ [[46, 42]], _, C, hS.append (.cons ⟨_, rfl⟩ .nil), by simpa [outR] using hX, by simp; lia, by rw [← q2]; walk_at "mm lk", by walk_at "mm lk", by walk_at "mm lk"⟩
          have hgne : g ≠ [] := by
            rintro rfl
            cases r with
            | nil => simp [enc] at hlen1; lia
            | cons g' r => exact hok2.1 rfl
          have hg0 : ∀ jj (hj : jj < g.length), ts[i + 1 + jj]? = some (some g[jj]) := by
            intro jj hj
            have := congrArg (·[jj]?) hT1
            rw [List.getElem?_append_left (by simpa using hj)] at this
            simpa [List.getElem?_drop, hj] using this
          have hgl : 0 < g.length := List.length_pos_iff.mpr hgne
          obtain ⟨v1, hv1⟩ : ∃ v, vs[i + 1]? = some v := ⟨_, List.getElem?_eq_getElem (by walk_at "om")⟩
          have hpx1 : PartV ST v1 (some g[0]) := by obtain ⟨y, e1, e2⟩ := hv.get hv1; rw [hg0 0 hgl] at e1; cases e1; exact e2
          walk_at "mms"
          rename At _ _ _ _ _ _ => C
          refine idxL (hl.keeps C.keep) hv1 (by walk_at "sz") ?_
          walk_at "mms"
          refine isNotStar hpx1 ?_
          walk_at "mms"
          refine ⟨rfl, ?_⟩
          dsimp only
          walk_at "mms"
          rename At _ _ _ _ _ _ => C
          refine cutP (JoR s.os s.heap L g i rs vs l ST bm D tn) ?_ ?_
          · walk_at "hx"
            refine wpAny_While ?_
            walk_at "hr"
            refine whileR (JoC s g rs vs l ST bm D tn i) ?_ g.length ?_ C
            · intro k g' m own s6 hI C6
              obtain ⟨rfl, jj, F, fs, ti, rfl, hjj, rfl, hFs, p1, p2, p3, p4, p5, p6, p7⟩ := hI
              have hfl := hFs.length
              rw [List.length_take, Nat.min_eq_left hjj] at hfl
              clear C
              walk_at "mms"
              refine br (fun q3 => ?_) (fun q3 => ?_)
              · obtain ⟨x, hx2⟩ : ∃ x, ts[i + 1 + jj]? = some x := ⟨_, List.getElem?_eq_getElem (by walk_at "om")⟩
                obtain ⟨v, hv3⟩ : ∃ v, vs[i + 1 + jj]? = some v := ⟨_, List.getElem?_eq_getElem q3⟩
                have hpx3 : PartV ST v x := by obtain ⟨y, e1, e2⟩ := hv.get hv3; rw [hx2] at e1; cases e1; exact e2
                walk_at "mms"
                rename At _ _ _ _ _ _ => C
                refine idxL (hl.keeps C.keep) hv3 (by walk_at "sz") ?_
                walk_at "mms"
                refine isNotStar hpx3 ?_
                walk_at "mms"
                refine brB (fun q4 => ?_) (fun q4 => ?_)
                · have hj2 : jj < g.length := by
                    rcases Nat.lt_or_ge jj g.length with q5 | q5
                    · exact q5
                    · exfalso
                      obtain rfl : jj = g.length := by lia
                      have := congrArg (·[g.length]?) hT1
                      rw [List.getElem?_append_right (by simp)] at this
                      simp [List.getElem?_drop] at this
                      rw [hx2] at this
                      cases r with
                      | nil => simp [enc] at this
                      | cons g' r => simp [enc] at this; subst this; simp at q4
                  have ex : x = some g[jj] := by have := hg0 jj hj2; rw [hx2] at this; exact Option.some.inj this
                  subst ex
                  obtain ⟨tv, rfl⟩ := hpx3
                  walk_at "mms"
                  rename At _ _ _ _ _ _ => C
                  refine idxL (hl.keeps C.keep) hv3 (by walk_at "sz") ?_
                  walk_at "mms"
                  rename At _ _ _ _ _ _ => C
                  refine ⟨g.length - (jj + 1), s.heap, _, [(F, lst (fs ++ [_])), (bm, bmP D), (D, lst rs)], by walk_at "om", ⟨rfl, jj + 1, F, _, _, rfl, hj2, rfl, ?_, by walk_at "mm lk", ?_, ?_, ?_, ?_, ?_, ?_⟩, C⟩
                  · have e : g.take (jj + 1) = g.take jj ++ [g[jj]] := by rw [List.take_succ, List.getElem?_eq_getElem hj2]; rfl
                    rw [e]; exact hFs.append (.cons ⟨tv, rfl⟩ .nil)
                  all_goals walk_at "mm lk"
                · walk_at "mms"
                  obtain rfl : x = none := by cases x <;> simp at q4 ⊢
                  have hj2 : jj = g.length := by
                    rcases Nat.lt_or_ge jj g.length with q5 | q5
                    · exfalso; have := hg0 jj q5; rw [hx2] at this; cases this
                    · lia
                  subst hj2
                  rw [List.take_length] at hFs
                  exact ⟨rfl, _, F, fs, ti, by assumption, hFs, p1, p2, p3, p4, p5, p6, p7⟩
              · walk_at "mms"
                obtain rfl : jj = g.length := by lia
                rw [List.take_length] at hFs
                exact ⟨rfl, _, F, fs, ti, by assumption, hFs, p1, p2, p3, p4, p5, p6, p7⟩
            · refine ⟨rfl, 0, _, [], _, rfl, Nat.zero_le _, rfl, .nil, by walk_at "mm lk", ?_, ?_, ?_, ?_, ?_, ?_⟩
              all_goals walk_at "mm lk"
          · rintro fl s6 ⟨rfl, m7, F, fs, t7, C7, hFs, p1, p2, p3, p4, p5, p6, p7⟩
            dsimp only
            clear C
            walk_at "mms"
            rename At _ _ _ _ _ _ => C
            have hgf : g.flatten.length ≤ 500000 := by simp only [List.map_cons, List.flatten_cons, List.length_append] at htl; lia
            have htr : (r.map List.flatten).flatten.length ≤ 500000 := by simp only [List.map_cons, List.flatten_cons, List.length_append] at htl; lia
            refine joinS C (C.listIn (.head _)) hFs (by rw [List.length_nil, Nat.mul_zero, ← List.length_flatten]; lia) ?_
            clear C
            intro t8 s8 C8
            rw [glue_nil]
            have C8 := C8.drop (own' := [(bm, bmP D), (D, lst rs)]) (.cons _ (List.Sublist.refl _))
            walk_at "mms"
            refine br (fun q3 => ?_) (fun q3 => ?_)
            · obtain rfl : r = [] := hr0 r (by walk_at "om")
              walk_at "mms"
              rename At _ _ _ _ _ _ => C
              refine ⟨0, s.heap, _, [(bm, bmP D), (D, lst (rs ++ [_] ++ [_]))], by simp, ⟨rfl, i + 1 + g.length, _, xs ++ [[46, 42]] ++ [g.flatten], [], _, rfl, by walk_at "om", rfl, (hS.append (.cons ⟨_, rfl⟩ .nil)).append (.cons ⟨_, rfl⟩ .nil), ?_, trivial, by simpa [outR] using hX, by simp, by simp; lia, by walk_at "mm lk", ?_, ?_, ?_, ?_, ?_⟩, C⟩
              · rw [List.drop_of_length_le (by walk_at "om")]; rfl
              all_goals walk_at "mm lk"
            · have hrne : r ≠ [] := by rintro rfl; exact q3 (by simp [enc] at hlen1; lia)
              walk_at "mms"
              rename At _ _ _ _ _ _ => C
              refine fS3 (Lit.e (by walk_at "lit")) (Lit.e (by walk_at "lit")) (by simp [sizeLine]) C ?_
              clear C
              intro s9 C9
              walk_at "mms"
              rename At _ _ _ _ _ _ => C
              refine ⟨_, _, _, _, _, _, _, rfl, C, by simp only [List.length_cons, List.length_nil]; walk_at "sz", ?_⟩
              clear C
              intro t10 s10 C10
              walk_at "mms"
              rename At _ _ _ _ _ _ => C
              refine ⟨r.length, s.heap, _, [(bm, bmP D), (D, lst (rs ++ [_]))], by simp, ⟨rfl, i + 1 + g.length, _, xs ++ [midT g], r, _, rfl, by walk_at "om", rfl, hS.append (.cons ⟨_, rfl⟩ .nil), ?_, ?_, ?_, htr, by simp; lia, by walk_at "mm lk", ?_, ?_, ?_, ?_, ?_⟩, C⟩
              · rw [← List.drop_drop, hT1, List.drop_append_of_le_length (by simp)]; simp
              · cases r with
                | nil => trivial
                | cons g' r => exact hok2.2
              · rw [← hX]
                cases r with
                | nil => exact absurd rfl hrne
                | cons g' r => simp [outR, midT]
              all_goals walk_at "mm lk"
        · walk_at "mms"
          obtain rfl : i = vs.length := by lia
          have hr : rest = [] := by
            cases rest with
            | nil => rfl
            | cons g r =>
              have := congrArg List.length hT
              rw [List.length_drop] at this; simp [enc] at this; lia
          subst hr
          exact ⟨rfl, _, rs, xs, ti, by assumption, hS, by simpa [outR] using hX, hxl, m1, m2, m6⟩
      · refine ⟨rfl, s0.length, rs, s0, gs, ti, rfl, by walk_at "om", rfl, hS, hd0, hok, rfl, by simp only [List.length_append] at ht; lia, Nat.le_refl _, m1, m2, m3, m4, m5, m6⟩
    · rintro fl s5 ⟨rfl, m, rs, xs, ti, C5, hS, hX, hxl, m1, m2, m6⟩
      dsimp only
      clear C4
      walk_at "mms"
      refine ⟨by simp, ?_⟩
      dsimp only
      walk_at "mms"
      rename At _ _ _ _ _ _ => C
      have hfl : (s0.flatten ++ outR gs).length ≤ 4100000 := by
        have := outR_len gs
        have h2 : gs.length ≤ 500000 := by
          have := enc_len gs
          lia
        simp only [List.length_append] at ht ⊢; lia
      have hsum : (xs.map (·.length)).sum = xs.flatten.length := by rw [List.length_flatten]
      refine joinS C (C.listIn (.tail _ (.head _))) hS (by rw [hsum, hX, List.length_nil, Nat.mul_zero]; lia) ?_
      clear C
      intro t1 s6 C6
      rw [glue_nil, hX]
      walk_at "mms"
      rename At _ _ _ _ _ _ => C
      refine fS3 (Lit.e (by walk_at "lit")) (Lit.e (by walk_at "lit")) (by simp [sizeLine]) C ?_
      clear C
      intro s7 C7
      walk_at "mms"
      rename At _ _ _ _ _ _ => C
      refine ⟨_, _, _, _, _, _, _, rfl, C, by simp only [List.length_cons, List.length_nil]; walk_at "sz", ?_⟩
      clear C
      intro t8 s8 C8
      walk_at "ho"
      exact h t8 s8 C8.keep C8.os C8.gens
end
-- MSre
section
open Sre
noncomputable def reC : Array Nat := #[14, 14, 4, 1, 1, 9, 0, 64, 0, 1342177280, 0, 0, 0, 0, 0, 17, 0, 13, 11, 9, 0, 64, 0, 1342177280, 0, 0, 0, 0, 0, 17, 1, 1]
noncomputable def amp (c : Nat) : Bool := decide (c ∈ [38, 124, 126])
theorem bits_ok (c : Nat) (h : c < 256) : ((#[0, 64, 0, 1342177280, 0, 0, 0, 0] : Array Nat).getD (c / 32) 0).testBit (c % 32) = amp c := by
  have : ∀ c : Fin 256, ((#[0, 64, 0, 1342177280, 0, 0, 0, 0] : Array Nat).getD (c.1 / 32) 0).testBit (c.1 % 32) = amp c.1 := by decide +kernel
  exact this ⟨c, h⟩
theorem amp_big (c : Nat) (h : ¬ c < 256) : amp c = false := by unfold amp; rw [decide_eq_false]; simp; lia
theorem get5 (k : Nat) (h : k < 8) : reC.getD (5 + (1 + k)) 0 = (#[0, 64, 0, 1342177280, 0, 0, 0, 0] : Array Nat).getD k 0 := by
  have : ∀ k : Fin 8, reC.getD (5 + (1 + k.1)) 0 = (#[0, 64, 0, 1342177280, 0, 0, 0, 0] : Array Nat).getD k.1 0 := by decide +kernel
  exact this ⟨k, h⟩
theorem get19 (k : Nat) (h : k < 8) : reC.getD (19 + (1 + k)) 0 = (#[0, 64, 0, 1342177280, 0, 0, 0, 0] : Array Nat).getD k 0 := by
  have : ∀ k : Fin 8, reC.getD (19 + (1 + k.1)) 0 = (#[0, 64, 0, 1342177280, 0, 0, 0, 0] : Array Nat).getD k.1 0 := by decide +kernel
  exact this ⟨k, h⟩
theorem inSet5 (c : Nat) (n : Nat) (seen : Sre.Seen) : ∃ seen', inSet reC c (n + 2) 5 true seen = .ok (amp c, seen') := by
  have e : inSet reC c (n + 2) 5 true seen = if (decide (c < 256) && (reC.getD (5 + (1 + c / 32)) 0).testBit (c % 32)) = true then .ok (true, seen.add 9) else inSet reC c (n + 1) 14 true (seen.add 9) := rfl
  have e2 : inSet reC c (n + 1) 14 true (seen.add 9) = .ok (false, (seen.add 9).add 0) := rfl
  rw [e, e2]
  by_cases h : c < 256
  · rw [get5 _ (by lia), bits_ok c h, decide_eq_true h, Bool.true_and]
    cases amp c
    · exact ⟨_, rfl⟩
    · exact ⟨_, rfl⟩
  · rw [decide_eq_false h, amp_big c h]
    exact ⟨_, rfl⟩
theorem inSet19 (c : Nat) (n : Nat) (seen : Sre.Seen) : ∃ seen', inSet reC c (n + 2) 19 true seen = .ok (amp c, seen') := by
  have e : inSet reC c (n + 2) 19 true seen = if (decide (c < 256) && (reC.getD (19 + (1 + c / 32)) 0).testBit (c % 32)) = true then .ok (true, seen.add 9) else inSet reC c (n + 1) 28 true (seen.add 9) := rfl
  have e2 : inSet reC c (n + 1) 28 true (seen.add 9) = .ok (false, (seen.add 9).add 0) := rfl
  rw [e, e2]
  by_cases h : c < 256
  · rw [get19 _ (by lia), bits_ok c h, decide_eq_true h, Bool.true_and]
    cases amp c
    · exact ⟨_, rfl⟩
    · exact ⟨_, rfl⟩
  · rw [decide_eq_false h, amp_big c h]
    exact ⟨_, rfl⟩
theorem admitted_ok (m : M) (hc : m.code = reC) : ∀ (fuel s : Nat) (seen : Sre.Seen), m.lim + 1 - s ≤ fuel → m.lim ≤ m.text.size →
    ∃ seen', m.admitted fuel s seen = .ok (((m.text.toList.take m.lim).drop s).findIdx? amp |>.map (s + ·), seen')
  | 0, s, seen, h, hl => by
    refine ⟨seen, ?_⟩
    have : (m.text.toList.take m.lim).drop s = [] := List.drop_of_length_le (by simp; lia)
    rw [this]; rfl
  | fuel + 1, s, seen, h, hl => by
    unfold M.admitted
    by_cases hs : s ≥ m.lim
    · rw [if_pos hs]
      have : (m.text.toList.take m.lim).drop s = [] := List.drop_of_length_le (by simp; lia)
      rw [this]; exact ⟨seen, rfl⟩
    · rw [if_neg hs, hc]
      obtain ⟨seen1, e1⟩ := inSet5 (m.text.getD s 0) 30 seen
      rw [show reC.size = 30 + 2 from rfl, e1]
      have hlt : s < (m.text.toList.take m.lim).length := by simp; lia
      have hd : (m.text.toList.take m.lim).drop s = m.text.getD s 0 :: (m.text.toList.take m.lim).drop (s + 1) := by
        rw [List.drop_eq_getElem_cons hlt]; congr 1
        rw [List.getElem_take]
        have : s < m.text.size := by lia
        simp [Array.getD, this]
      rw [hd, List.findIdx?_cons]
      cases ha : amp (m.text.getD s 0) with
      | true => exact ⟨seen1, rfl⟩
      | false =>
        obtain ⟨seen2, e2⟩ := admitted_ok m hc fuel (s + 1) seen1 (by lia) hl
        refine ⟨seen2, ?_⟩
        show m.admitted fuel (s + 1) seen1 = _
        rw [e2]
        cases (List.drop (s + 1) (List.take m.lim m.text.toList)).findIdx? amp with
        | none => rfl
        | some k => simp; lia

noncomputable def mAt (text : Array Nat) (lim s ls : Nat) (seen : Sre.Seen) : M :=
  { code := reC, text, lim, start := s, lastStart := ls, pc := 15, pos := s, handed := s, marks := #[none, none], frames := [{ wait := .nextStart, pc := 15, pos := s, outermost := true }], weight := 1, seen }
noncomputable def mAt1 (text : Array Nat) (lim s ls : Nat) (seen : Sre.Seen) : M :=
  { code := reC, text, lim, start := s, lastStart := ls, pc := 17, pos := s, handed := s, marks := #[some s, none], lastmark := 0, frames := [{ wait := .nextStart, pc := 15, pos := s, outermost := true }], weight := 1, seen }
noncomputable def mAt2 (text : Array Nat) (lim s ls : Nat) (seen : Sre.Seen) : M :=
  { code := reC, text, lim, start := s, lastStart := ls, pc := 29, pos := s + 1, handed := s, marks := #[some s, none], lastmark := 0, frames := [{ wait := .nextStart, pc := 15, pos := s, outermost := true }], weight := 1, seen }
noncomputable def mAt3 (text : Array Nat) (lim s ls : Nat) (seen : Sre.Seen) : M :=
  { code := reC, text, lim, start := s, lastStart := ls, pc := 31, pos := s + 1, handed := s, marks := #[some s, some (s + 1)], lastmark := 1, lastindex := 1, frames := [{ wait := .nextStart, pc := 15, pos := s, outermost := true }], weight := 1, seen }
noncomputable def mAt4 (text : Array Nat) (lim s ls : Nat) (seen : Sre.Seen) : M :=
  { code := reC, text, lim, start := s, lastStart := ls, pc := 31, pos := s + 1, handed := s + 1, marks := #[some s, some (s + 1)], lastmark := 1, lastindex := 1, frames := [{ wait := .nextStart, pc := 15, pos := s, outermost := true }], weight := 1, answer := some true, seen }
section
variable {text : Array Nat} {lim s ls : Nat} {seen : Sre.Seen}
theorem st0 : (mAt text lim s ls seen).step = mAt1 text lim s ls (seen.add 17) := rfl
theorem st1 (h : s < lim) (ha : amp (text.getD s 0) = true) : ∃ seen', (mAt1 text lim s ls seen).step = mAt2 text lim s ls seen' := by
  obtain ⟨seen', e⟩ := inSet19 (text.getD s 0) 30 (seen.add 13)
  refine ⟨seen', ?_⟩
  have e1 : (mAt1 text lim s ls seen).step = (if s ≥ lim then ({ mAt1 text lim s ls seen with seen := seen.add 13 } : M).say false else
    match inSet reC (text.getD s 0) 32 19 true (seen.add 13) with
    | .error why => ({ mAt1 text lim s ls seen with seen := seen.add 13 } : M).stick why
    | .ok (false, seen2) => ({ mAt1 text lim s ls seen with seen := seen2 } : M).say false
    | .ok (true, seen2) => mAt2 text lim s ls seen2) := rfl
  rw [e1, if_neg (by lia), e, ha]
theorem st2 : (mAt2 text lim s ls seen).step = mAt3 text lim s ls (seen.add 17) := by kernel_rfl
theorem st3 : (mAt3 text lim s ls seen).step = mAt4 text lim s ls (seen.add 1) := rfl
theorem run_found (h : s < lim) (ha : amp (text.getD s 0) = true) : ∃ seen', (mAt text lim s ls seen).runFor 4 = mAt4 text lim s ls seen' := by
  obtain ⟨seen', e⟩ := st1 (ls := ls) (seen := seen.add 17) h ha
  refine ⟨(seen'.add 17).add 1, ?_⟩
  have e0 : (mAt text lim s ls seen).runFor 4 = (((mAt text lim s ls seen).step.step).step).step := by
    rw [st0, e, st2, st3]
    show (mAt text lim s ls seen).step.runFor 3 = _
    rw [st0]
    show (mAt1 text lim s ls (seen.add 17)).step.runFor 2 = _
    rw [e]
    show (mAt2 text lim s ls seen').step.runFor 1 = _
    rw [st2]
    show (mAt3 text lim s ls (seen'.add 17)).step.runFor 0 = _
    rw [st3]; rfl
  rw [e0, st0, e, st2, st3]
theorem run_end : ((mAt4 text lim s ls seen).runFor 4).outcome = some .matched ∧ ((mAt4 text lim s ls seen).runFor 4).start = s ∧ ((mAt4 text lim s ls seen).runFor 4).handed = s + 1 ∧ ((mAt4 text lim s ls seen).runFor 4).marks = #[some s, some (s + 1)] ∧ ((mAt4 text lim s ls seen).runFor 4).lastmark = 1 ∧ ((mAt4 text lim s ls seen).runFor 4).lastindex = 1 := ⟨rfl, rfl, rfl, rfl, rfl, rfl⟩
noncomputable def m0 (text : Array Nat) (lim pos : Nat) (must : Bool) (ls : Nat) : M := { code := reC, text, lim, start := pos, lastStart := ls, pc := 15, pos, handed := pos, marks := #[none, none], mustAdvance := must, seen := ({} : Sre.Seen).add 14 }
theorem m0_first (text : Array Nat) (lim pos : Nat) (must : Bool) (ls : Nat) : (m0 text lim pos must ls).hasFirstSet = true := rfl
theorem search_eq (text : Array Nat) (lim pos : Nat) (must : Bool) : forSearch reC text 1 pos lim must = if (decide (pos > lim) || decide (lim - pos < 1)) = true then (m0 text lim pos must 0).say false else (m0 text lim pos must lim).attemptFrom pos true := rfl
theorem from_eq (text : Array Nat) (lim pos : Nat) (must : Bool) (ls : Nat) : (m0 text lim pos must ls).attemptFrom pos true = match (m0 text lim pos must ls).admitted (lim + 1 - pos) pos (({} : Sre.Seen).add 14) with
    | .ok (some s, seen) => ({ m0 text lim pos must ls with mustAdvance := false, seen } : M).attemptAt s true
    | .ok (none, seen) => ({ m0 text lim pos must ls with seen } : M).say false
    | .error why => (m0 text lim pos must ls).stick why := by
  unfold M.attemptFrom
  rw [m0_first]; rfl
theorem search_found {pos k : Nat} {must : Bool} (hl : lim = text.size) (h : (text.toList.drop pos).findIdx? amp = some k) : ∃ seen', forSearch reC text 1 pos lim must = mAt text lim (pos + k) lim seen' := by
  have hk : k < (text.toList.drop pos).length := (List.findIdx?_eq_some_iff_getElem.mp h).1
  simp at hk
  obtain ⟨seen', e⟩ := admitted_ok (m0 text lim pos must lim) rfl (lim + 1 - pos) pos (({} : Sre.Seen).add 14) (Nat.le_refl _) (Nat.le_of_eq hl)
  refine ⟨seen', ?_⟩
  rw [search_eq, if_neg (by simp; lia), from_eq, e]
  have e2 : (text.toList.take lim).drop pos = text.toList.drop pos := by rw [List.take_of_length_le (by simp; lia)]
  show (match (Except.ok (Option.map (pos + ·) (((text.toList.take lim).drop pos).findIdx? amp), seen') : Except String (Option Nat × Sre.Seen)) with
    | .ok (some s, seen) => ({ m0 text lim pos must lim with mustAdvance := false, seen } : M).attemptAt s true
    | .ok (none, seen) => ({ m0 text lim pos must lim with seen } : M).say false
    | .error why => (m0 text lim pos must lim).stick why) = _
  rw [e2, h]; rfl
theorem say_failed (m : M) (h1 : m.outcome = none) (h2 : m.frames = []) : ((m.say false).runFor 4).outcome = some .failed := by
  have e : (m.say false).step = { m.say false with outcome := some .failed } := by
    unfold M.step M.say
    simp [h1, h2]
  show (if (m.say false).outcome.isSome then _ else M.runFor 3 (m.say false).step).outcome = _
  rw [if_neg (by simp [M.say, h1]), e]
  rfl
theorem search_none {pos : Nat} {must : Bool} (hl : lim = text.size) (h : (text.toList.drop pos).findIdx? amp = none) : ((forSearch reC text 1 pos lim must).runFor 4).outcome = some .failed := by
  rw [search_eq]
  split
  · exact say_failed _ rfl rfl
  · obtain ⟨seen', e⟩ := admitted_ok (m0 text lim pos must lim) rfl (lim + 1 - pos) pos (({} : Sre.Seen).add 14) (Nat.le_refl _) (Nat.le_of_eq hl)
    rw [from_eq, e]
    have e2 : (text.toList.take lim).drop pos = text.toList.drop pos := by rw [List.take_of_length_le (by simp; lia)]
    show ((match (Except.ok (Option.map (pos + ·) (((text.toList.take lim).drop pos).findIdx? amp), seen') : Except String (Option Nat × Sre.Seen)) with
      | .ok (some s, seen) => ({ m0 text lim pos must lim with mustAdvance := false, seen } : M).attemptAt s true
      | .ok (none, seen) => ({ m0 text lim pos must lim with seen } : M).say false
      | .error why => (m0 text lim pos must lim).stick why).runFor 4).outcome = _
    rw [e2, h]
    exact say_failed _ rfl rfl
end
end
-- MSre2
section
open Builtin Builtin.Re
open Sre
section
variable {w : World} {A : Around} {E : Value → Shared → Prop} {s : Shared}
theorem drive_step {n : Nat} {m : Sre.M} {Q : Sre.M → Shared → Prop} (h : if (m.runFor 4).outcome.isSome = true then Q (m.runFor 4) s else wpAny (Md w) A (reDrive n (m.runFor 4)) Q E s) : wpAny (Md w) A (reDrive (n + 1) m) Q E s := by
  show wpAny _ _ (if (m.runFor 4).outcome.isSome = true then pure (m.runFor 4) else (do rule "sre.turn"; reDrive n (m.runFor 4))) _ _ _
  by_cases e : (m.runFor 4).outcome.isSome = true
  · rw [if_pos e] at h ⊢; exact wpAny_pure h
  · rw [if_neg e] at h ⊢; exact wpAny_bind (wpAny_rule h)
theorem rules_ok {c : Nat → Bool} {nm : Nat → String} {Q : PUnit → Shared → Prop} : ∀ (l : List Nat), Q ⟨⟩ s → wpAny (Md w) A (forIn l PUnit.unit (fun i _ => do
    if c i = true then rule (nm i)
    pure (ForInStep.yield PUnit.unit))) Q E s
  | [], h => by rw [List.forIn_nil]; exact wpAny_pure h
  | i :: l, h => by
    rw [List.forIn_cons]
    refine wpAny_bind ?_
    have k : wpAny (Md w) A (forIn l PUnit.unit (fun i _ => do
      if c i = true then rule (nm i)
      pure (ForInStep.yield PUnit.unit))) Q E s := rules_ok l h
    cases e : c i with
    | true => rw [if_pos rfl]; exact wpAny_bind (wpAny_rule (wpAny_pure k))
    | false => rw [if_neg Bool.false_ne_true]; exact wpAny_pure k
theorem toEnd {m : Sre.M} {Q : Option Sre.M → Shared → Prop} (h : wpAny (Md w) A (reDrive (2 ^ 64) m) (fun m s' => s' = s ∧ ((m.outcome = some .matched ∧ Q (some m) s) ∨ (m.outcome = some .failed ∧ Q none s))) E s) : wpAny (Md w) A (reRunToEnd m) Q E s := by
  unfold reRunToEnd
  refine wpAny_bind (wpAny_mono h (fun m s' h' => ?_) fun _ _ e => e)
  obtain ⟨rfl, h'⟩ := h'
  refine wpAny_bind (rules_ok _ ?_)
  rcases h' with ⟨e, q⟩ | ⟨e, q⟩
  · rw [e]; exact wpAny_pure q
  · rw [e]; exact wpAny_pure q
theorem next_none {t : ReTarget} {pos : Nat} {must : Bool} {Q : Option Sre.M → Shared → Prop} (hc : t.code = reC) (hg : t.groups = 1) (hl : t.lim = t.text.size) (h : (t.text.toList.drop pos).findIdx? amp = none) (q : Q none s) :
    wpAny (Md w) A (reNextFound t pos must) Q E s := by
  unfold reNextFound
  rw [hc, hg]
  refine toEnd ?_
  have e := search_none (must := must) hl h
  rw [show (2 : Nat) ^ 64 = (2 ^ 64 - 1) + 1 from rfl]
  refine drive_step ?_
  rw [if_pos (by rw [e]; rfl)]
  exact ⟨rfl, .inr ⟨e, q⟩⟩
theorem next_found {t : ReTarget} {pos k : Nat} {must : Bool} {Q : Option Sre.M → Shared → Prop} (hc : t.code = reC) (hg : t.groups = 1) (hl : t.lim = t.text.size) (h : (t.text.toList.drop pos).findIdx? amp = some k)
    (q : ∀ m : Sre.M, m.start = pos + k → m.handed = pos + k + 1 → m.marks = #[some (pos + k), some (pos + k + 1)] → m.lastmark = 1 → m.lastindex = 1 → Q (some m) s) : wpAny (Md w) A (reNextFound t pos must) Q E s := by
  unfold reNextFound
  rw [hc, hg]
  refine toEnd ?_
  obtain ⟨seen, e⟩ := search_found (must := must) hl h
  have hk := List.findIdx?_eq_some_iff_getElem.mp h
  obtain ⟨hk1, hk2, _⟩ := hk
  have hlt : pos + k < t.text.size := by simp at hk1; lia
  have ha : amp (t.text.getD (pos + k) 0) = true := by
    rw [List.getElem_drop] at hk2
    simpa [Array.getD, hlt] using hk2
  obtain ⟨seen2, e2⟩ := run_found (ls := t.lim) (seen := seen) (by rw [hl]; exact hlt : pos + k < t.lim) ha
  rw [e]
  rw [show (2 : Nat) ^ 64 = (2 ^ 64 - 2) + 1 + 1 from rfl]
  refine drive_step ?_
  rw [e2, if_neg (by simp [mAt4])]
  refine drive_step ?_
  obtain ⟨r1, r2, r3, r4, r5, r6⟩ := run_end (text := t.text) (lim := t.lim) (s := pos + k) (ls := t.lim) (seen := seen2)
  rw [if_pos (by rw [r1]; rfl)]
  exact ⟨rfl, .inl ⟨r1, q _ r2 r3 r4 r5 r6⟩⟩
end
end
-- MSub
section
open Builtin Builtin.Re
open Sre
noncomputable def tupP (vs : List Value) : OP := fun o => ∃ n, o = { cls := .type "tuple", data := .seq vs.toArray n }
noncomputable def matP (string pattern : Value) (lim : Nat) (tup : Addr) : OP := fun o => o = { cls := .type "re.Match", data := .fields #[string, pattern, rawInt 0, rawInt (lim : Int), rawInt 1, .ref tup] }
section
variable {w : World} {A : Around} {E : Value → Shared → Prop} {O : OsState} {g : Heap} {L f : Addr} {m : Str → Option Value} {own own' : Own} {s : Shared}
theorem sliceT {l : List Nat} {b e : Nat} {Q : Value → Shared → Prop} (C : At O g L m own s) (hl : l.length ≤ sizeLine) (h : ∀ t s', At O g L m own s' → Q (.str (S ((l.drop b).take (e - b))) t) s') : wpAny (Md w) A (reSlice (S l).cps 0 b e) Q E s := by
  have e1 : (⟨(S l).cps.extract b e⟩ : Str) = S ((l.drop b).take (e - b)) := by simp [List.extract]
  show wpAny _ _ (mkStr ⟨(S l).cps.extract b e⟩) _ _ _
  rw [e1]
  refine wpAny_mkStr (h _ _ (C.toks _)) ?_
  rw [S_len]; simp only [List.length_take, List.length_drop]; lia
theorem newMatchR {string pattern : Value} {lim a : Nat} {M : Sre.M} {Q : Value → Shared → Prop} (C : At O g L m own s) (h1 : M.start = a) (h2 : M.handed = a + 1) (h3 : M.marks = #[some a, some (a + 1)]) (h4 : M.lastmark = 1) (h5 : M.lastindex = 1)
    (h : ∀ t f s', At O g L m ((f, matP string pattern lim t) :: (t, tupP [rawInt (a : Int), rawInt ((a + 1 : Nat) : Int), rawInt (a : Int), rawInt ((a + 1 : Nat) : Int)]) :: own) s' → Q (.ref f) s') : wpAny (Md w) A (reNewMatch pattern string 1 0 lim M) Q E s := by
  have e : reNewMatch pattern string 1 0 lim M = (do newFields "re.Match" [string, pattern, rawInt ((0 : Nat) : Int), rawInt (lim : Int), rawInt 1, ← newTuple [rawInt (a : Int), rawInt ((a + 1 : Nat) : Int), rawInt (a : Int), rawInt ((a + 1 : Nat) : Int)]]) := by
    unfold reNewMatch
    rw [h1, h2, h3, h4, h5]
    simp [List.range, List.range.loop]
    intro hh; lia
  rw [e]
  refine wpAny_bind ?_
  refine wpAny_newObj_type ?_ (by show (4 : Nat) ≤ sizeLine; unfold sizeLine; lia)
  have C1 := C.push { cls := .type "tuple", data := .seq [rawInt (a : Int), rawInt ((a + 1 : Nat) : Int), rawInt (a : Int), rawInt ((a + 1 : Nat) : Int)].toArray } rfl (P := tupP _) ⟨0, rfl⟩
  have C2 := C1.push { cls := .type "re.Match", data := .fields #[string, pattern, rawInt 0, rawInt (lim : Int), rawInt 1, .ref s.heap.objs.size] } rfl (P := matP string pattern lim s.heap.objs.size) rfl
  exact wpAny_newObj_type (h _ _ _ C2)
theorem groupR {l : List Nat} {ts tk : Tok} {pattern : Value} {lim tup f a : Nat} {c : Nat} {Q : Value → Shared → Prop} (C : At O g L m own s) (hl : l.length ≤ sizeLine) (ha : l[a]? = some c)
    (h1 : ∃ o, s.heap.get? f = some o ∧ matP (.str (S l) ts) pattern lim tup o) (h2 : ∃ o, s.heap.get? tup = some o ∧ tupP [rawInt (a : Int), rawInt ((a + 1 : Nat) : Int), rawInt (a : Int), rawInt ((a + 1 : Nat) : Int)] o) (h : ∀ t s', At O g L m own s' → Q (.str (S [c]) t) s') :
    wpAny (Md w) A (do let x ← reFound (.ref f); let n ← reGroupNumber x (.int 1 tk); let v ← reGroupText x n .none; ret v) (fun fin s' => ∃ v, fin = .done (.ret v) ∧ Q v s') E s := by
  obtain ⟨o, ho, rfl⟩ := h1
  obtain ⟨o2, ho2, n, rfl⟩ := h2
  unfold reFound
  refine wpAny_bind (wpAny_bind (wpAny_fieldsOf ho rfl ?_))
  refine wpAny_bind ?_
  show wpAny _ _ (seqItems? (.ref tup) >>= fun r => pure ((r.getD #[]).map reRawOf)) _ _ _
  refine wpAny_bind (wpAny_seqItems ho2 rfl (wpAny_pure ?_))
  refine wpAny_pure ?_
  refine wpAny_bind ?_
  unfold reGroupNumber
  iterate 14 (try lk)
  refine wpAny_pure ?_
  rw [if_neg (by simp)]
  refine wpAny_pure ?_
  have em : Array.map reRawOf ((some #[rawInt (a : Int), rawInt ((a + 1 : Nat) : Int), rawInt (a : Int), rawInt ((a + 1 : Nat) : Int)]).getD #[]) = #[(a : Int), ((a + 1 : Nat) : Int), (a : Int), ((a + 1 : Nat) : Int)] := by simp [reRawOf, rawInt]
  rw [em]
  refine wpAny_bind ?_
  show wpAny _ _ (if (decide ((a : Int) < 0) || decide (((a + 1 : Nat) : Int) < 0)) = true then pure .none else (do
    let (text, kind) ← reTextOf (.str (S l) ts)
    reSlice text kind (a : Int).toNat ((a + 1 : Nat) : Int).toNat)) _ _ _
  rw [if_neg (by simp; lia)]
  show wpAny _ _ (reSlice (S l).cps 0 a (a + 1)) _ _ _
  refine sliceT C hl (fun t s' C' => ?_)
  have e : (l.drop a).take (a + 1 - a) = [c] := by
    rw [show a + 1 - a = 1 by lia, List.drop_eq_getElem?_toList_append, ha]; rfl
  rw [e]
  exact wpAny_pure ⟨_, rfl, h t s' C'⟩
noncomputable def reT (l : List Nat) (ts : Tok) : ReTarget := { pattern := .ref 49, string := .str (S l) ts, code := reC, text := (S l).cps, kind := 0, groups := 1, pos := 0, lim := (S l).cps.size }
theorem lk49 (w : World) : (KK w).lookup 49 = some (k49 PG w.params) := by kernel_rfl
theorem lk48 (w : World) : (KK w).lookup 48 = some (k48 PG w.params) := by kernel_rfl
theorem codeIs (w : World) : ∃ items n, (k48 PG w.params).data = .seq items n ∧ (Array.map reRawOf items).map (·.toNat) = reC := ⟨_, _, rfl, by decide +kernel⟩
theorem wholeT {l : List Nat} {ts : Tok} {Q : ReTarget → Shared → Prop} (G : Gd w s.heap) (h : Q (reT l ts) s) : wpAny (Md w) A (reWholeTarget (.ref 49) (.str (S l) ts)) Q E s := by
  have h49 := G.K _ _ (lk49 w)
  have h48 := G.K _ _ (lk48 w)
  obtain ⟨items, n, hd, hc⟩ := codeIs w
  unfold reWholeTarget
  refine wpAny_bind (wpAny_fieldsOf h49 rfl ?_)
  refine wpAny_bind (m := reTextOf _) (wpAny_pure ?_)
  dsimp only
  rw [if_neg (by simp)]
  rw [if_neg (by decide +kernel)]
  refine wpAny_bind (m := reNoCollectionInside _ 0) (wpAny_pure ?_)
  refine wpAny_bind ?_
  show wpAny _ _ (seqItems? (.ref 48) >>= fun r => pure ((r.getD #[]).map reRawOf)) _ _ _
  refine wpAny_bind (wpAny_seqItems h48 hd (wpAny_pure ?_))
  refine wpAny_pure ?_
  show Q { pattern := .ref 49, string := .str (S l) ts, code := (Array.map reRawOf items).map (·.toNat), text := (S l).cps, kind := 0, groups := 1, pos := 0, lim := (S l).cps.size } s
  rw [hc]; exact h
noncomputable def subT (l : List Nat) : List Nat := (l.map fun c => if amp c = true then [92, c] else [c]).flatten
theorem subT_app (a b : List Nat) : subT (a ++ b) = subT a ++ subT b := by simp [subT]
theorem subT_none : ∀ l : List Nat, l.findIdx? amp = none → subT l = l
  | [], _ => rfl
  | c :: r, h => by
    rw [List.findIdx?_cons] at h
    cases hc : amp c with
    | true => rw [hc] at h; cases h
    | false =>
      rw [hc] at h
      have := subT_none r (by simpa using h)
      show (if amp c = true then [92, c] else [c]) ++ subT r = _
      rw [this, hc]; rfl
theorem iteW {α : Type} {M : Model} {c : Prop} [Decidable c] {a b : Sem α} {Q : α → Shared → Prop} (h1 : c → wpAny M A a Q E s) (h2 : ¬ c → wpAny M A b Q E s) : wpAny M A (if c then a else b) Q E s := by
  by_cases h : c
  · rw [if_pos h]; exact h1 h
  · rw [if_neg h]; exact h2 h
theorem pushP {P : Addr} {ps : List Value} {x : Value} {Q : Unit → Shared → Prop} (C : At O g L m own s) (u : Upd P (lst ps) (lst (ps ++ [x])) own own') (hsz : ps.length + 1 ≤ sizeLine) (h : ∀ s', At O g L m own' s' → Q () s') : wpAny (Md w) A (updateSeq P (·.push x)) Q E s := by
  obtain ⟨o, ho, n, ro⟩ := C.get u.mem
  have hd : o.data = .seq ps.toArray n := by rw [ro]
  refine wpAny_updateSeq ho hd (h _ (C.upd u (Heap.SameBut.update ..) ?_ s.toks)) (by simp; lia) (by simp; lia)
  obtain ⟨n', hd'⟩ := Obj.data_mapSeq hd (·.push x)
  refine ⟨_, Heap.get?_update_self _ ho (Obj.isFreed_of_seq hd'), ?_⟩
  rw [ro]
  exact ⟨_, by simp [Obj.mapSeq]; rfl⟩
theorem findIdx_take {l : List Nat} {j : Nat} (h : l.findIdx? amp = some j) : (l.take j).findIdx? amp = none := by
  rw [List.findIdx?_eq_none_iff]
  intro x hx
  obtain ⟨i, hi⟩ := List.mem_iff_getElem?.mp hx
  obtain ⟨h1, h2, h3⟩ := List.findIdx?_eq_some_iff_getElem.mp h
  rw [List.getElem?_take] at hi
  split at hi
  · rename_i hij
    have := h3 i hij
    obtain ⟨q, rfl⟩ := List.getElem?_eq_some_iff.mp hi
    simpa using this
  · cases hi
theorem subT_len : ∀ l : List Nat, (subT l).length ≤ 2 * l.length
  | [] => Nat.le_refl _
  | c :: r => by
    have := subT_len r
    show ((if amp c = true then [92, c] else [c]) ++ subT r).length ≤ _
    rw [List.length_append, List.length_cons]
    split <;> simp <;> lia
theorem entry_subloop : entryFor table "re.Pattern.sub.loop" = some Builtin.«re.Pattern.sub.loop» := entryFor_of_tree (by kernel_rfl)
theorem plain_subloop : plainId "re.Pattern.sub.loop" = true := by decide +kernel
theorem subLoop {fn : Value} {l : List Nat} {ts : Tok} {P : Addr} {R : Result → Shared → Prop} (hlen : l.length ≤ 100000) (G : Gd w g)
    (hlam : ∀ (f tup a c : Nat) (own2 : Own) (s2 : Shared) (Q' : Value → Shared → Prop) (E' : Value → Shared → Prop), At O g L m own2 s2 → (f, matP (.str (S l) ts) (.ref 49) l.length tup) ∈ own2 →
      (tup, tupP [rawInt (a : Int), rawInt ((a + 1 : Nat) : Int), rawInt (a : Int), rawInt ((a + 1 : Nat) : Int)]) ∈ own2 → l[a]? = some c → (∀ t s', At O g L m own2 s' → Q' (.str (S [92, c]) t) s') → wpAny (Md w) A.in1 (call fn [.ref f]) Q' E' s2)
    (fin : ∀ t s', At O g L m own s' → R (.ok (.ret (.str (S (subT l)) t))) s') :
    ∀ (n done k : Nat) (s : Shared) (ps : List Value) (xs : List (List Nat)), l.length - done < n → done ≤ l.length → At O g L m ((P, lst ps) :: own) s → StrsV ps xs → xs.flatten = subT (l.take done) → ps.length ≤ 2 * done →
      codeAny (Md w) A (.builtin "re.Pattern.sub.loop" ⟨[.ref 49, .str (S l) ts, fn, rawInt 1, rawInt 0, rawInt (k : Int), rawInt (done : Int), rawInt (done : Int), .bool false, .ref P, .bool false], []⟩) R s := by
  have hsl : l.length ≤ sizeLine := by unfold sizeLine; lia
  have finish : ∀ (k : Int) (s : Shared) (ps : List Value) (xs : List (List Nat)), At O g L m ((P, lst ps) :: own) s → StrsV ps xs → xs.flatten = subT l →
      wpAny (Md w) A.in1 (do
        let joiner ← reSlice (S l).cps 0 0 0
        let items ← seqItems? (.ref P)
        if (items.getD #[]).isEmpty = true then do
          let text ← pure joiner
          if false = true then (do ret (← holding [text] (do newTuple [text, ← mkInt k]))) else ret text
        else do
          let text ← call (.builtin (if ((0 : Nat) == 0) = true then "str.join" else "bytes.join")) [joiner, .ref P]
          if false = true then (do ret (← holding [text] (do newTuple [text, ← mkInt k]))) else ret text) (fun fin s' => match fin with | .done f => R (.ok f) s' | .again c' => c'.quiet = true ∧ codeAny (Md w) A c' R s') (fun e s' => R (.error e) s') s := by
    intro k s ps xs C hS hX
    refine wpAny_bind (sliceT C hsl (fun t s1 C1 => ?_))
    obtain ⟨o, ho, n, ro⟩ := C1.get (.head _)
    have hd : o.data = .seq ps.toArray n := by rw [ro]
    refine wpAny_bind (wpAny_seqItems ho hd ?_)
    have drop1 : ∀ s', At O g L m ((P, lst ps) :: own) s' → At O g L m own s' := fun s' C => C.drop (List.sublist_cons_self _ _)
    cases ps with
    | nil =>
      cases hS
      refine wpAny_pure ?_
      have e : ((l.drop 0).take (0 - 0)) = subT l := by simpa using hX
      rw [e]
      exact fin t _ (drop1 _ C1)
    | cons v r =>
      have hw : (xs.map (·.length)).sum ≤ 200000 := by
        rw [← List.length_flatten, hX]
        have := subT_len l; lia
      refine wpAny_bind (joinS (sep := []) C1 (C1.listIn (.head _)) hS (by rw [List.length_nil, Nat.mul_zero]; lia) (fun t2 s2 C2 => ?_))
      refine wpAny_pure ?_
      rw [glue_nil, hX]
      exact fin t2 _ (drop1 _ C2)
  intro n
  induction n with
  | zero => intro done k s ps xs hn; lia
  | succ n ih =>
    intro done k s ps xs hn hd C hS hX hps
    refine codeAny_builtin entry_subloop ?_
    rw [Around.under_plainId plain_subloop _]
    unfold Builtin.«re.Pattern.sub.loop»
    show wpAny _ _ (reWholeTarget (.ref 49) (.str (S l) ts) >>= _) _ _ _
    refine wpAny_bind (wholeT (C.gd G) ?_)
    show wpAny _ _ (reNextFound (reT l ts) done false >>= _) _ _ _
    cases hf : (l.drop done).findIdx? amp with
    | none =>
      refine wpAny_bind (next_none rfl rfl rfl hf ?_)
      dsimp only [reT]
      have hrest : subT (l.drop done) = l.drop done := subT_none _ hf
      have hall : subT l = subT (l.take done) ++ l.drop done := by rw [← hrest, ← subT_app, List.take_append_drop]
      refine iteW (fun hlt0 => ?_) (fun hlt0 => ?_)
      · have hlt : done < l.length := by simpa using hlt0
        refine wpAny_bind (sliceT C hsl (fun t s1 C1 => ?_))
        refine wpAny_bind (pushP C1 .head (by unfold sizeLine; lia) (fun s2 C2 => ?_))
        refine finish _ _ _ (xs ++ [l.drop done]) (by exact C2) (hS.append (.cons ⟨t, ?_⟩ .nil)) (by rw [List.flatten_append, hX, hall]; simp)
        have e : (l.drop (done : Int).toNat).take ((S l).cps.size - (done : Int).toNat) = l.drop done := by
          rw [Int.toNat_natCast]; exact List.take_of_length_le (by simp)
        rw [e]
      · have hlt : ¬ done < l.length := by simpa using hlt0
        refine finish _ _ _ xs C hS ?_
        rw [hX, hall, List.drop_of_length_le (by lia), List.append_nil]
    | some j =>
      obtain ⟨hj1, hj2, _⟩ := List.findIdx?_eq_some_iff_getElem.mp hf
      have hlt : done + j < l.length := by simp at hj1; lia
      have hc : l[done + j]? = some l[done + j] := List.getElem?_eq_getElem hlt
      have hamp : amp l[done + j] = true := by rw [List.getElem_drop] at hj2; exact hj2
      refine wpAny_bind (next_found rfl rfl rfl hf (fun M r2 r3 r4 r5 r6 => ?_))
      dsimp only [reT]
      have hmid : subT ((l.drop done).take j) = (l.drop done).take j := subT_none _ (findIdx_take hf)
      have htk : subT (l.take (done + j + 1)) = subT (l.take done) ++ (l.drop done).take j ++ [92, l[done + j]] := by
        have e1 : l.take (done + j + 1) = l.take done ++ (l.drop done).take j ++ [l[done + j]] := by
          rw [List.take_succ, hc, List.take_add]; rfl
        rw [e1, subT_app, subT_app, hmid]
        have e2 : subT [l[done + j]] = [92, l[done + j]] := by
          show (if amp l[done + j] = true then [92, l[done + j]] else [l[done + j]]) ++ [] = _
          rw [if_pos hamp]; rfl
        rw [e2]
      have tail : ∀ (s1 : Shared) (ps1 : List Value) (xs1 : List (List Nat)), At O g L m ((P, lst ps1) :: own) s1 → StrsV ps1 xs1 → xs1.flatten = subT (l.take done) ++ (l.drop done).take j → ps1.length ≤ 2 * done + 1 →
          wpAny (Md w) A.in1 (if ((1 : Int) == 0) = true then (do
              let item ← pure fn
              if (item != Value.none) = true then (do
                updateSeq P fun x => x.push item
                again (.builtin "re.Pattern.sub.loop" ⟨[.ref 49, .str (S l) ts, fn, rawInt 1, rawInt 0, rawInt ((k : Int) + 1), rawInt (M.handed : Int), rawInt (M.handed : Int), .bool (M.handed == M.start), .ref P, .bool false], []⟩)) else
                again (.builtin "re.Pattern.sub.loop" ⟨[.ref 49, .str (S l) ts, fn, rawInt 1, rawInt 0, rawInt ((k : Int) + 1), rawInt (M.handed : Int), rawInt (M.handed : Int), .bool (M.handed == M.start), .ref P, .bool false], []⟩))
            else (do
              let found ← reNewMatch (.ref 49) (.str (S l) ts) 1 0 (S l).cps.size M
              let item ← holding [found] (if ((1 : Int) == 1) = true then call fn [found] else (do reExpand fn (← reFound found)))
              if (item != Value.none) = true then (do
                updateSeq P fun x => x.push item
                again (.builtin "re.Pattern.sub.loop" ⟨[.ref 49, .str (S l) ts, fn, rawInt 1, rawInt 0, rawInt ((k : Int) + 1), rawInt (M.handed : Int), rawInt (M.handed : Int), .bool (M.handed == M.start), .ref P, .bool false], []⟩)) else
                again (.builtin "re.Pattern.sub.loop" ⟨[.ref 49, .str (S l) ts, fn, rawInt 1, rawInt 0, rawInt ((k : Int) + 1), rawInt (M.handed : Int), rawInt (M.handed : Int), .bool (M.handed == M.start), .ref P, .bool false], []⟩)))
            (fun fin s' => match fin with | .done f => R (.ok f) s' | .again c' => c'.quiet = true ∧ codeAny (Md w) A c' R s') (fun e s' => R (.error e) s') s1 := by
        intro s1 ps1 xs1 C1 hS1 hX1 hp1
        refine iteW (fun h => absurd h (by decide)) (fun _ => ?_)
        have hsz : (S l).cps.size = l.length := by simp
        rw [hsz]
        refine wpAny_bind (newMatchR C1 r2 (by rw [r3]) r4 r5 r6 (fun tup f s2 C2 => ?_))
        refine wpAny_bind (wpAny_holding ?_)
        refine iteW (fun _ => ?_) (fun h => absurd (by decide) h)
        refine hlam f tup (done + j) _ _ s2 _ _ C2 (.head _) (.tail _ (.head _)) hc (fun t s3 C3 => ?_)
        refine iteW (fun _ => ?_) (fun h => absurd rfl h)
        refine wpAny_bind (pushP C3 (.tail (.tail .head)) (by unfold sizeLine; lia) (fun s4 C4 => ?_))
        refine wpAny_pure ⟨plainId_quiet plain_subloop _, ?_⟩
        rw [r2, r3, show (done + j + 1 == done + j) = false by simp]
        have C5 := C4.drop (own' := (P, lst (ps1 ++ [_])) :: own) (.cons _ (.cons _ (List.Sublist.refl _)))
        refine ih (done + j + 1) (k + 1) s4 _ (xs1 ++ [[92, l[done + j]]]) (by lia) hlt C5 (hS1.append (.cons ⟨t, rfl⟩ .nil)) (by rw [List.flatten_append, hX1, htk]; simp) (by simp; lia)
      refine iteW (fun hlt0 => ?_) (fun hlt0 => ?_)
      · refine wpAny_bind (sliceT C hsl (fun t s1 C1 => ?_))
        refine wpAny_bind (pushP C1 .head (by unfold sizeLine; lia) (fun s2 C2 => ?_))
        refine tail s2 _ (xs ++ [(l.drop done).take j]) C2 (hS.append (.cons ⟨t, ?_⟩ .nil)) (by rw [List.flatten_append, hX]; simp) (by simp; lia)
        rw [r2, Int.toNat_natCast, show done + j - done = j by lia]
      · rw [r2, Int.toNat_natCast] at hlt0
        obtain rfl : j = 0 := by lia
        exact tail s ps xs C hS (by rw [hX]; simp) (by lia)
end
end
-- MSub2
section
open Builtin Builtin.Re
theorem entry_sub : entryFor table "re.Pattern.sub" = some Builtin.«re.Pattern.sub» := entryFor_of_tree (by kernel_rfl)
theorem slot_sub : Slot "re.Pattern" "sub" "re.Pattern.sub" :=
  .of (owner := "re.Pattern") (n := "sub") (by rw [typeLookup_type, builtinLookup_eq_fast]; kernel_rfl) (by decide +kernel) (by decide +kernel) (by decide +kernel)
    (by first | exact .inl (by decide +kernel) | exact .inr (by decide +kernel)) (by rw [isSubtype_type]; kernel_rfl)
theorem type_sub : typeOf (.builtin "re.Pattern.sub") = pure (.type "method_descriptor") := by show builtinType _ = _; rw [builtinType_eq_fast]; kernel_rfl
theorem args_sub (a b c : Value) : argsOk "re.Pattern.sub" ⟨[a, b, c], []⟩ := by unfold argsOk; kernel_rfl
theorem plainAttrs_pat : PlainAttrs "re.Pattern" := 
  ⟨⟨"object.__getattribute__", by rw [typeLookup_type, builtinLookup_eq_fast]; kernel_rfl, by decide +kernel⟩, by rw [typeLookup_type, builtinLookup_eq_fast]; kernel_rfl⟩
theorem slot_group : Slot "re.Match" "group" "re.Match.group" :=
  .of (owner := "re.Match") (n := "group") (by rw [typeLookup_type, builtinLookup_eq_fast]; kernel_rfl) (by decide +kernel) (by decide +kernel) (by decide +kernel)
    (by first | exact .inl (by decide +kernel) | exact .inr (by decide +kernel)) (by rw [isSubtype_type]; kernel_rfl)
theorem type_group : typeOf (.builtin "re.Match.group") = pure (.type "method_descriptor") := by show builtinType _ = _; rw [builtinType_eq_fast]; kernel_rfl
theorem args_group (a b : Value) : argsOk "re.Match.group" ⟨[a, b], []⟩ := by unfold argsOk; kernel_rfl
theorem entry_group : entryFor table "re.Match.group" = some Builtin.«re.Match.group» := entryFor_of_tree (by kernel_rfl)
theorem fnCall : typeLookup (.type "function") "__call__" = pure (some (.builtin "function.__call__")) := by rw [typeLookup_type, builtinLookup_eq_fast]; kernel_rfl
theorem named3 (a b : Value) : reNamed "re.Pattern.sub" "sub" ["repl", "string", "count"] 2 [a, b] [] = pure [some a, some b, none] := by kernel_rfl
theorem plainAttrs_mat : PlainAttrs "re.Match" :=
  ⟨⟨"object.__getattribute__", by rw [typeLookup_type, builtinLookup_eq_fast]; kernel_rfl, by decide +kernel⟩, by rw [typeLookup_type, builtinLookup_eq_fast]; kernel_rfl⟩
section
variable {w : World} {A : Around} {E : Value → Shared → Prop} {O : OsState} {g : Heap} {L f : Addr} {m : Str → Option Value} {own own' : Own} {s : Shared}
theorem mSub {pl : Sem Bool} {Q : Value × List Value → Shared → Prop} (G : Gd w s.heap) (h : Q (.builtin "re.Pattern.sub", [.ref 49]) s) : wpAny (Md w) A (getMethod (.ref 49) "sub" pl) Q E s :=
  getMethod_builtin ⟨_, G.K _ _ (lk49 w), rfl⟩ plainAttrs_pat slot_sub type_sub (fun a e => by cases e; exact ⟨_, G.K _ _ (lk49 w), rfl⟩) h
theorem mGroup {string pattern : Value} {lim tup : Nat} {pl : Sem Bool} {Q : Value × List Value → Shared → Prop} (h1 : ∃ o, s.heap.get? f = some o ∧ matP string pattern lim tup o) (h : Q (.builtin "re.Match.group", [.ref f]) s) : wpAny (Md w) A (getMethod (.ref f) "group" pl) Q E s := by
  obtain ⟨o, ho, rfl⟩ := h1
  exact getMethod_builtin ⟨_, ho, rfl⟩ plainAttrs_mat slot_group type_group (fun a e => by cases e; exact ⟨_, ho, rfl⟩) h
theorem callGroup {l : List Nat} {ts tk : Tok} {pattern : Value} {lim tup f a : Nat} {c : Nat} {Q : Value → Shared → Prop} (C : At O g L m own s) (hl : l.length ≤ sizeLine) (ha : l[a]? = some c)
    (h1 : ∃ o, s.heap.get? f = some o ∧ matP (.str (S l) ts) pattern lim tup o) (h2 : ∃ o, s.heap.get? tup = some o ∧ tupP [rawInt (a : Int), rawInt ((a + 1 : Nat) : Int), rawInt (a : Int), rawInt ((a + 1 : Nat) : Int)] o) (h : ∀ t s', At O g L m own s' → Q (.str (S [c]) t) s') :
    wpAny (Md w) A (call (.builtin "re.Match.group") [.ref f, .int 1 tk]) Q E s := by
  have hT : s.TypeIs (.ref f) "re.Match" := by obtain ⟨o, ho, rfl⟩ := h1; exact ⟨_, ho, rfl⟩
  refine wpAny_call_entry slot_group hT entry_group ?_ (args_group _ _)
  unfold Builtin.«re.Match.group»
  refine wpAny_bind (m := noKeywords _ _) (wpAny_pure ?_)
  exact groupR C hl ha h1 h2 h
theorem subR {fn : Addr} {fo : Obj} {l : List Nat} {ts : Tok} {Q : Value → Shared → Prop} (C : At O g L m own s) (hlen : l.length ≤ 100000) (G : Gd w g) (hfn : s.heap.get? fn = some fo) (hfd : fo.cls = .type "function")
    (hlam : ∀ (f tup a c : Nat) (own2 : Own) (s2 : Shared) (Q' : Value → Shared → Prop) (E' : Value → Shared → Prop), At O g L m own2 s2 → (f, matP (.str (S l) ts) (.ref 49) l.length tup) ∈ own2 →
      (tup, tupP [rawInt (a : Int), rawInt ((a + 1 : Nat) : Int), rawInt (a : Int), rawInt ((a + 1 : Nat) : Int)]) ∈ own2 → l[a]? = some c → (∀ t s', At O g L m own2 s' → Q' (.str (S [92, c]) t) s') → wpAny (Md w) A.in1 (call (.ref fn) [.ref f]) Q' E' s2)
    (h : ∀ t s', At O g L m own s' → Q (.str (S (subT l)) t) s') : wpAny (Md w) A (call (.builtin "re.Pattern.sub") [.ref 49, .ref fn, .str (S l) ts]) Q E s := by
  have h49 := (C.gd G).K _ _ (lk49 w)
  refine wpAny_call ?_
  refine codeAny_call_builtin slot_sub.plain entry_sub (slot_sub.check _ _ _ _ _ _ _ _ ⟨_, h49, rfl⟩ (args_sub _ _ _) ?_)
  unfold Builtin.«re.Pattern.sub» reSubstitute
  refine wpAny_bind (m := reNamed _ _ _ _ _ _) (wpAny_of_eq (named3 _ _) ?_)
  dsimp only
  refine wpAny_bind (wpAny_pure ?_)
  refine wpAny_bind (wpAny_specialOf ⟨_, hfn, hfd⟩ fnCall ?_)
  refine iteW (fun _ => ?_) (fun h => absurd rfl h)
  refine wpAny_bind (wpAny_pure ?_)
  refine iteW (fun _ => ?_) (fun h => absurd rfl h)
  refine wpAny_bind (wpAny_pure ?_)
  refine wpAny_bind (wpAny_holding (wholeT (C.gd G) ?_))
  refine iteW (fun _ => ?_) (fun h => absurd rfl h)
  refine wpAny_bind (m := reNotHeld _ _) ?_
  unfold reNotHeld
  refine wpAny_bind (wpAny_isInstance (typeIs_str _ _ _) (b := false) (by rw [isSubtype_type]; kernel_rfl) ?_)
  refine iteW (fun h => absurd h Bool.false_ne_true) (fun _ => ?_)
  refine wpAny_pure ?_
  refine wpAny_bind (nL C (Nat.le_of_ble_eq_true rfl) (fun P s1 C1 _ _ => ?_))
  refine wpAny_pure ⟨plainId_quiet plain_subloop _, ?_⟩
  exact subLoop hlen G hlam (fun t s' C' => h t s' C') (l.length + 1) 0 0 s1 [] [] (by lia) (Nat.zero_le _) C1 .nil (by rw [List.take_zero]; rfl) (Nat.zero_le _)
end
end
-- MLam
section
open Builtin Builtin.Re
section
variable {w : World} {A : Around} {E : Value → Shared → Prop} {s : Shared}
theorem codeAny_exprC {R : Result → Shared → Prop} {e : Expr} {env : Env}
    (h : wpAny (Md w) (A.deeper env) (eval e env) (fun v s' => R (.ok (.ret v)) s')
      (fun x s' => wpAny (Md w) (A.deeper env) (leaving env x) (fun _ s'' => R (.error x) s'') (fun e' s'' => R (.error e') s'') s') s) :
    codeAny (Md w) A (.expr e env) R s := by
  refine codeAny_of_tree ?_
  show wpAny _ (A.deeper env) (do point; ret (← (eval e env).onRaise (leaving env))) _ _ s
  exact wpAny_bind (wpAny_point (wpAny_bind (wpAny_onRaise (wpAny_mono h (fun f s' h' => wpAny_pure h') fun _ _ h' => h'))))
theorem codeAny_call_lambda {R : Result → Shared → Prop} {a : Addr} {args : Args} {o : Obj} {fd : FuncData} {body : Expr} (hroom : A.depth < recursionLimit)
    (ho : s.heap.get? a = some o)
    (hd' : o.data = .func fd) (hco : fd.scope.isCoroutine = false) (hgen : fd.scope.isGenerator = false) (hbody : fd.body = .expr body) (hcd : s.heap.CodeRec fd.code fd.qualname)
    (h : wpAny (Md w) A.in1 (bindArgs fd args) (fun binds s₁ =>
      wpAny (Md w) A.in1 (newFunctionEnv fd.scope fd.globals fd.closure binds (fd.qualname ++ ".<locals>.") (some a) fd.code none fd.builtins)
        (fun env s₂ => s₂.heap.NoLimit ∧ codeAny (Md w) A (.expr body env) R s₂) (fun e s' => R (.error e) s') s₁) (fun e s' => R (.error e) s') s) :
    codeAny (Md w) A (.call (.ref a) args) R s := by
  refine codeAny_of_tree ?_
  show wpAny _ A.in1 (callAny (.ref a) args) _ _ s
  simp only [callAny]
  refine wpAny_bind (wpAny_load ho ?_)
  obtain ⟨c, oc, vs, tq, hc, hoc, hdc, hq⟩ := hcd
  simp only [hd', callFunction, hco, hgen, hbody, hc]
  rw [hc] at h
  refine wpAny_bind (m := field (.ref c) 1) (wpAny_field hoc hdc hq (wpAny_bind (wpAny_pure ?_)))
  exact wpAny_bind (wpAny_mono h (fun binds s₁ h₁ => wpAny_bind (wpAny_mono h₁ (fun env s₂ h₂ => wpAny_bind (wpAny_enterFrame h₂.1 hroom
    (wpAny_pure (And.intro rfl h₂.2)))) fun _ _ h' => h')) fun _ _ h' => h')
theorem callL {f : Addr} {k : Nat} {fd : FuncData} {qual : Str} {e : Expr} {scope : Scope} {cdv oc : Value} {od : Option Addr} {osl : Array (Option Value)} {args : List Value} {binds : List (Str × Value)} {Q : Value → Shared → Prop}
    (G : Gd w s.heap) (R : Rm k A) (hk : k ≤ 100) (ho : s.heap.get? f = some ⟨oc, od, .func fd, osl⟩) (hbody : fd.body = .expr e) (hq : fd.qualname = qual) (hsc : fd.scope = scope) (hgl : fd.globals = mainGlobals) (hcl : fd.closure = []) (hcdv : fd.code = cdv) (hbl : fd.builtins = builtinsNs)
    (hcd : s.heap.CodeRec cdv qual)
    (hbind : BindsTo s fd ⟨args, []⟩ binds) (hloc : (binds.all fun x => decide (scope.names.lookup x.1 = some .local)) = true)
    (hcell : (scope.names.all fun x => decide (x.2 ≠ .cell)) = true) (hco : scope.isCoroutine = false) (hgen : scope.isGenerator = false) (hkind : scope.kind = .function) (hg : s.gens = #[])
    (h : ∀ L s', At s.os s.heap L (fun x => binds.reverse.lookup x) [] s' → wpAny (Md w) (A.deeper (envOf qual scope L f cdv)) (eval e (envOf qual scope L f cdv)) (fun v s'' => Q v s'')
        (fun x s'' => wpAny (Md w) (A.deeper (envOf qual scope L f cdv)) (leaving (envOf qual scope L f cdv) x) (fun _ s3 => E x s3) E s'') s') :
    wpAny (Md w) A (call (.ref f) args) Q E s := by
  subst hq hsc hcdv
  refine wpAny_call ?_
  refine codeAny_call_lambda (R.room hk) ho rfl hco hgen hbody hcd ?_
  refine hbind _ _ _ _ ?_
  rw [hgl, hcl, hbl]
  have hc' : ∀ x ∈ fd.scope.names, x.2 ≠ .cell := fun x hx => of_decide_eq_true (List.all_eq_true.mp hcell x hx)
  refine wpAny_newFunctionEnv hc' (locs hloc) (fun h' hns hsb => ⟨G.lim.fresh _ hsb, ?_⟩) hkind
  have key : ∀ b, b ≠ s.heap.objs.size → h'.get? b = (s.heap.push { cls := .type "frame", data := .dict #[] }).get? b := fun b hb => hsb.2 b hb
  have low : ∀ b o, s.heap.get? b = some o → h'.get? b = some o := fun b o e => by rw [key b (Nat.ne_of_lt (Heap.lt_size e))]; exact Heap.get?_push_of_some _ e
  have C : At s.os s.heap s.heap.objs.size (fun x => binds.reverse.lookup x) [] { s with heap := h', toks := s.toks + binds.length } := by
    refine ⟨low, by simp, hns, ?_, by simp, .nil, rfl, hg⟩
    cases e : s.heap.get? s.heap.objs.size with
    | none => rfl
    | some o => exact absurd (Heap.lt_size e) (Nat.lt_irrefl _)
  exact codeAny_exprC (wpAny_mono (h s.heap.objs.size _ C) (fun v s'' q => q) fun x s'' q => q)
end
end
-- MTup
section
noncomputable def tup (vs : List Value) : OP := fun o => o.cls = .type "tuple" ∧ ∃ n, o.data = .seq vs.toArray n
theorem slice_from (l : List Nat) {a : Nat} (ha : a ≤ l.length) : Txt.slice (S l) (some (a : Int)) none = S (l.drop a) := by
  rw [slice_from_eq (b := (l.length : Int)) (by lia) (by rw [S_len]; lia) (by rw [S_len])]
  have : (l.drop a).take (l.length - a) = l.drop a := List.take_of_length_le (by simp)
  simp [this]
section
variable {w : World} {A : Around} {E : Value → Shared → Prop} {O : OsState} {g : Heap} {L : Addr} {m : Str → Option Value} {own own' : Own} {s : Shared}
theorem tL {vs : List Value} {Q : Value → Shared → Prop} (C : At O g L m own s) (hsz : vs.length ≤ sizeLine) (h : ∀ a s', At O g L m ((a, tup vs) :: own) s' → Q (.ref a) s') : wpAny (Md w) A (newTuple vs) Q E s := by
  refine wpAny_newObj_type (h _ _ (C.push _ rfl ⟨rfl, 0, rfl⟩)) (by show vs.toArray.size ≤ sizeLine; rw [List.size_toArray]; exact hsz)
theorem inT2 {a : Addr} {x y z : List Nat} {t u v : Tok} {Q : Value → Shared → Prop} (C : At O g L m own s) (h1 : (a, tup [.str (S y) u, .str (S z) v]) ∈ own) (h : Q (.bool (decide (x = y) || decide (x = z))) s) : wpAny (Md w) A (compareOp .In (.str (S x) t) (.ref a)) Q E s := by
  obtain ⟨o, ho, hc, n, hd⟩ := C.get h1
  refine SeqAt.in_tupleAt (items := [Value.str (S y) u, .str (S z) v].toArray) (fun w => match w with | .str k _ => k == S x | _ => false) ⟨o, ho, hc, n, hd⟩ (fun w hw => ?_) ?_
  · simp only [List.mem_toArray, List.mem_cons, List.not_mem_nil, or_false] at hw
    rcases hw with rfl | rfl
    · exact (eqGives_str _ _ _ _).at _ _
    · exact (eqGives_str _ _ _ _).at _ _
  · have e : ([Value.str (S y) u, .str (S z) v].toArray.any fun w => match w with | .str k _ => k == S x | _ => false) = (decide (x = y) || decide (x = z)) := by
      simp only [List.any_toArray, List.any_cons, List.any_nil, Bool.or_false, S_beq]
      simp only [eq_comm]
    rw [e]; exact h
end
end
-- MEsc
section
open Builtin Builtin.Str
noncomputable def esc58 : List Nat := [40, 41, 91, 93, 123, 125, 63, 42, 43, 45, 124, 94, 36, 92, 46, 38, 126, 35, 32, 9, 10, 13, 11, 12]
noncomputable def escT (c : Nat) : List Nat := if c ∈ esc58 then [92, c] else [c]
theorem escT_lit : (Str.ofString "\\(").cps.toList = [92, 40] := by kernel_rfl
noncomputable def es58 (P : Params) : Array DictEntry := match (k58 PG P).data with | .dict es _ => es | _ => #[]
noncomputable def f58 (P : Params) (k : Int) : Option Value := findBy Value.isInt (es58 P) k
theorem k58_eq (P : Params) : (k58 PG P) = ⟨.type "dict", none, .dict (es58 P) 24, #[]⟩ := by kernel_rfl
theorem keys58 (P : Params) : ((es58 P).all fun e => match e.key with | .int k _ => e.hash == hashInt k | _ => false) = true := by kernel_rfl
theorem map58 {w : World} {h : Heap} (G : Gd w h) : h.MapOf (intKind PG w) 58 (f58 w.params) := by
  have h0 := G.K _ _ (show (KK w).lookup 58 = some (k58 PG w.params) from by kernel_rfl)
  refine ⟨_, es58 w.params, 24, by rw [h0, k58_eq], ⟨rfl, rfl, rfl⟩, rfl, fun e he => ?_, fun k => rfl⟩
  have := Array.all_eq_true'.mp (keys58 _) e he
  revert this
  cases hk : e.key with
  | int k t => intro q; exact ⟨k, by simp [intKind, Value.isInt], eq_of_beq q⟩
  | _ => intro q; exact absurd q Bool.false_ne_true
theorem f58_none {P : Params} {c : Nat} (h : c ∉ esc58) : f58 P (c : Int) = none := by
  unfold f58 findBy
  rw [Option.map_eq_none_iff, Array.find?_eq_none]
  intro e he
  have h2 : ((es58 P).all fun e => match e.key with | .int k _ => decide (0 ≤ k ∧ k.toNat ∈ esc58) | _ => true) = true := by kernel_rfl
  have h3 := Array.all_eq_true'.mp h2 e he
  revert h3
  cases hk : e.key with
  | int k t =>
    intro q
    simp only [decide_eq_true_eq] at q
    simp only [Value.isInt, Bool.not_eq_true]
    by_cases e1 : k = (c : Int)
    · subst e1; exact absurd q.2 (by simpa using h)
    · simpa [Value.isInt] using fun q => e1 q
  | _ => intro _; simp [Value.isInt]
theorem f58_some {P : Params} {c : Nat} (h : c ∈ esc58) : ∃ t, f58 P (c : Int) = some (.str (S [92, c]) t) := by
  have h2 : (esc58.all fun c => match f58 P (c : Int) with | some (.str x t) => x == S [92, c] | _ => false) = true := by kernel_rfl
  have h3 := List.all_eq_true.mp h2 c h
  revert h3
  cases hk : f58 P (c : Int) with
  | none => intro q; exact absurd q Bool.false_ne_true
  | some v =>
    cases v with
    | str x t => intro q; exact ⟨t, by rw [eq_of_beq q]⟩
    | _ => intro q; exact absurd q Bool.false_ne_true
section
variable {w : World} {A : Around} {E : Value → Shared → Prop} {O : OsState} {g : Heap} {L f : Addr} {m : Str → Option Value} {own own' : Own} {s : Shared}
theorem tabLook {c : Nat} {Q : Mapped → Shared → Prop} (C : At O g L m own s) (G : Gd w g) (hA : A.handled = none)
    (h1 : c ∈ esc58 → ∀ s', At O g L m own s' → Q (.text (S [92, c])) s') (h2 : c ∉ esc58 → ∀ s', At O g L m own s' → Q .keep s') :
    wpAny (Md w) A (tableLookup (.ref 58) c) Q E s := by
  have M := map58 (C.gd G)
  unfold tableLookup
  refine wpAny_bind (wpAny_attempt ?_)
  refine wpAny_bind (wpAny_mkInt ?_)
  by_cases hc : c ∈ esc58
  · obtain ⟨t, e⟩ := f58_some hc
    refine wpAny_getItem_intMap (f := f58 w.params) M.intMap e ?_
    dsimp only
    refine wpAny_bind (wpAny_pure ?_)
    dsimp only
    refine wpAny_bind (wpAny_pure ?_)
    dsimp only
    exact wpAny_pure (h1 hc _ ((C.toks _).toks _))
  · refine wpAny_getItem_missing_of (knd := intKind PG w) (k := (c : Int)) (f := f58 w.params) (intKind_is _ _ _ _) (by decide) hA M (f58_none hc) ?_
    intro h' e N
    dsimp only
    obtain ⟨ob, t, he, hcl, _⟩ := N.there
    refine wpAny_bind (wpAny_isInstance (T := "KeyError") (b := true) ⟨ob, he, hcl⟩ (by rw [isSubtype_type]; kernel_rfl) ?_)
    refine iteW (fun _ => ?_) (fun h => absurd rfl h)
    refine wpAny_bind (wpAny_rule ?_)
    exact wpAny_pure (h2 hc _ (C.grow N.keeps rfl rfl))
theorem trans1 {c : Nat} {t : Tok} {Q : Value → Shared → Prop} (C : At O g L m own s) (G : Gd w g) (hA : A.handled = none)
    (h : ∀ t s', At O g L m own s' → Q (.str (S (escT c)) t) s') : wpAny (Md w) A (call (.builtin "str.translate") [.str (S [c]) t, .ref 58]) Q E s := by
  refine wpAny_call_entry F.slot_str_translate (typeIs_str _ _ _) F.entry_str_translate ?_ (F.args_str_translate_2 _ _)
  unfold Builtin.«str.translate»
  refine wpAny_bind (m := strOneArg _ _) (wpAny_of_eq (a := (Value.str (S [c]) t, S [c], Value.ref 58)) (by rfl) ?_)
  dsimp only
  refine iteW (fun h => absurd h (by simp [Str.length])) (fun _ => ?_)
  rw [show (#[c].all fun x => decide (x < 128)) = decide (c < 128) by simp]
  simp only [List.forIn_toArray, List.forIn_cons, List.forIn_nil]
  refine wpAny_bind (wpAny_bind ?_)
  refine iteW (fun h => absurd h (by decide)) (fun _ => ?_)
  have slow : ∀ s1, At O g L m own s1 → ∀ (kn : List (Nat × Option Nat)) (fs : Bool), wpAny (model PG w) A.in1 (do
      let __do_lift ← tableLookup (Value.ref 58) c
      match __do_lift with
        | Mapped.keep => pure (ForInStep.yield (({ cps := #[c] } :: [] : List Str), 0 + 1, fs, kn, false))
        | Mapped.drop => pure (ForInStep.yield ([], 0, fs, kn, true))
        | Mapped.char d => pure (ForInStep.yield ({ cps := #[d] } :: [], 0 + 1, fs, kn, false))
        | Mapped.text t => pure (ForInStep.yield (t :: [], 0 + t.length, fs, kn, false))) (fun r s' => At O g L m own s' ∧ ∃ n, n ≤ 2 ∧ r = ForInStep.yield ([S (escT c)], n, fs, kn, false)) E s1 := by
    intro s1 C1 kn fs
    refine wpAny_bind (tabLook C1 G hA (fun hc s2 C2 => ?_) (fun hc s2 C2 => ?_))
    · exact wpAny_pure ⟨C2, 2, Nat.le_refl _, by unfold escT; rw [if_pos hc]; rfl⟩
    · exact wpAny_pure ⟨C2, 1, by decide, by unfold escT; rw [if_neg hc]⟩
  have fin : ∀ s2 (kn : List (Nat × Option Nat)) (fs b : Bool) n, At O g L m own s2 → n ≤ 2 → wpAny (model PG w) A.in1
        (match (ForInStep.yield ([S (escT c)], n, fs, kn, b) : ForInStep (List Str × Nat × Bool × List (Nat × Option Nat) × Bool)) with
        | ForInStep.done b => pure b
        | ForInStep.yield b => pure b)
        (fun a s' =>
          wpAny (model PG w) A.in1
            (if tooLong a.snd.fst = true then do
              unsupported "str.translate:memory"
              retStr { cps := List.foldl (fun acc p => acc ++ p.cps) #[] a.fst.reverse }
            else retStr { cps := List.foldl (fun acc p => acc ++ p.cps) #[] a.fst.reverse })
            (fun fin s' => ∃ v, fin = Fin.done (Flow.ret v) ∧ Q v s') E s') E s2 := by
    intro s2 kn fs b n C2 hn
    refine wpAny_pure ?_
    refine iteW (fun h => absurd h (by unfold tooLong; have : sizeLine = 16777216 := rfl; simp; lia)) (fun _ => ?_)
    have e2 : ({ cps := List.foldl (fun acc p => acc ++ p.cps) #[] ([S (escT c)] : List Str).reverse } : Str) = S (escT c) := by simp
    dsimp only
    rw [e2]
    have hl : (escT c).length ≤ 2 := by unfold escT; split <;> simp
    show wpAny _ _ (mkStr (S (escT c)) >>= ret) _ _ _
    refine wpAny_bind (wpAny_mkStr (wpAny_pure ⟨_, rfl, h _ _ (C2.toks _)⟩) (by rw [S_len]; unfold sizeLine; lia))
  refine iteW (fun h1 => ?_) (fun h1 => ?_)
  · simp only [List.lookup_nil]
    refine wpAny_bind (tabLook C G hA (fun hc s2 C2 => ?_) (fun hc s2 C2 => ?_))
    · dsimp only
      rw [if_neg (by simp [Str.length])]
      dsimp only
      refine wpAny_bind (wpAny_pure ?_)
      dsimp only
      refine wpAny_bind (wpAny_rule ?_)
      refine iteW (fun h => absurd h Bool.false_ne_true) (fun _ => ?_)
      refine wpAny_mono (slow s2 C2 _ _) (fun r s3 h3 => ?_) fun _ _ e => e
      obtain ⟨C3, n, hn, rfl⟩ := h3
      exact fin s3 _ _ _ n C3 hn
    · dsimp only
      refine wpAny_bind (wpAny_pure ?_)
      dsimp only
      refine wpAny_pure ?_
      have e : (S [c] : Str) = S (escT c) := by unfold escT; rw [if_neg hc]
      have := fin s2 [(c, some c)] (decide (c < 128)) false 1 C2 (by decide)
      rw [← e] at this
      exact this
  · refine iteW (fun h => absurd h Bool.false_ne_true) (fun _ => ?_)
    refine wpAny_mono (slow s C _ _) (fun r s3 h3 => ?_) fun _ _ e => e
    obtain ⟨C3, n, hn, rfl⟩ := h3
    exact fin s3 _ _ _ n C3 hn
theorem gmTranslate {M : Model} {x : Str} {t : Tok} {pl : Sem Bool} {Q : Value × List Value → Shared → Prop} (h : Q (.builtin "str.translate", [.str x t]) s) : wpAny M A (getMethod (.str x t) "translate" pl) Q E s := by
  with_reducible exact GM.of (.str x t) (typeIs_str _ _ _) F.slot_str_translate F.type_str_translate GM.noRef h
end
end
-- MEsc2
section
open Builtin Builtin.Str
theorem spEscape {w : World} {A : Around} {E : Value → Shared → Prop} {s : Shared} {c : Nat} {t : Tok} {j : Nat} {Q : Value → Shared → Prop} (G : Gd w s.heap) (R : Rm j A) (hj : j ≤ 90) (hg : s.gens = #[])
    (h : ∀ t s', Keeps s.heap s'.heap → s'.os = s.os → s'.gens = #[] → Q (.str (S (escT c)) t) s') : wpAny (Md w) A (call (.ref 68) [.str (S [c]) t]) Q E s := by
  refine callK0 (binds := [("pattern", .str (S [c]) t)]) G R (by walk_at "om") (lk68 w) (cd68 w) (BindsTo.of_eq rfl) rfl (by kernel_rfl) rfl rfl rfl hg ?_
  intro L s' C _
  have R' := R.deeper (envOf "escape" (fnScope (stAt PG 8)) L 68 (.ref 67))
  walk_at "xs"
  walk_at "mms"
  rename At _ _ _ _ _ _ => C
  refine trans1 C G R'.handled ?_
  clear C
  intro t s1 C
  walk_at "ho"
  exact h _ _ C.keep C.os C.gens
end
-- MMake
section
noncomputable def tabP (h : Heap) (pos : Pos) (qual : Str) : OP := fun o => o = tabObj #[] ∨ ∃ c', o = tabObj #[rawInt pos.line, rawInt pos.col, .ref c'] ∧ h.CodeRec (.ref c') qual
theorem codeRecK {h h' : Heap} {c : Addr} {q : Str} (x : h.CodeRec (.ref c) q) (k : ∀ o, h.get? c = some o → h'.get? c = some o) : h'.CodeRec (.ref c) q := by
  obtain ⟨c', oc, vs, t, e, h1, h2, h3⟩ := x
  cases e
  exact ⟨c, oc, vs, t, rfl, k _ h1, h2, h3⟩
theorem tabP.keeps {h h' : Heap} {pos : Pos} {q : Str} {o : Obj} (x : tabP h pos q o) (k : Keeps h h') : tabP h' pos q o := by
  rcases x with x | ⟨c', e, r⟩
  · exact .inl x
  · exact .inr ⟨c', e, codeRecK r fun o e => k _ _ e⟩
theorem upd_last {a : Addr} {P P' : OP} : ∀ own0 : Own, Upd a P P' (own0 ++ [(a, P)]) (own0 ++ [(a, P')])
  | [] => .head
  | _ :: l => .tail (upd_last l)
theorem At.weak {O : OsState} {g : Heap} {L : Addr} {m : Str → Option Value} {own own' : Own} {s : Shared} (C : At O g L m own s) (h : ∀ p ∈ own', ∃ P, (p.1, P) ∈ own ∧ ∀ o, P o → p.2 o) (e : own'.map Prod.fst = own.map Prod.fst) : At O g L m own' s := by
  refine ⟨C.keep, fun p hp => ?_, C.ns, C.gL, fun p hp => ?_, by rw [e]; exact C.nd, C.os, C.gens⟩
  · obtain ⟨P, h1, h2⟩ := h p hp; obtain ⟨o, ho, r⟩ := C.ow _ h1; exact ⟨o, ho, h2 o r⟩
  · obtain ⟨P, h1, h2⟩ := h p hp; exact C.gown (p.1, P) h1
theorem At.weakLast {O : OsState} {g : Heap} {L : Addr} {m : Str → Option Value} {own0 : Own} {a : Addr} {P P' : OP} {s : Shared} (C : At O g L m (own0 ++ [(a, P)]) s) (h : ∀ o, P o → P' o) : At O g L m (own0 ++ [(a, P')]) s := by
  refine C.weak (fun p hp => ?_) (by simp)
  rcases List.mem_append.mp hp with hp | hp
  · exact ⟨p.2, List.mem_append_left _ hp, fun _ r => r⟩
  · rw [List.mem_singleton.mp hp]; exact ⟨P, List.mem_append_right _ (.head _), h⟩
theorem bmAt {w : World} {h : Heap} (K : (KK w).In h) {mg : Str → Option Value} (hm : ∀ x r, nsIn (KK w) mainGlobals x = some r → mg x = r) : h.BuiltinsAt mg 70 :=
  ⟨4, _, hm "__builtins__" (some (.ref 4)) (by kernel_rfl), by decide, by decide, by decide, K _ _ (show (KK w).lookup 4 = some (k4 PG w.params) from by kernel_rfl), rfl, rfl, rfl⟩
theorem keepsDrop {g h : Heap} {l : List Addr} (k : Keeps g h) (n : ∀ a ∈ l, g.get? a = none) : Keeps g (dropA h l) := fun b o e => by
  rw [dropA_get, if_neg (fun q => by rw [n b q] at e; cases e)]; exact k b o e
theorem At.takeT {O : OsState} {g : Heap} {L : Addr} {m : Str → Option Value} {own0 : Own} {P : OP} {s s3 : Shared} {pos : Pos} {q : Str} (C : At O g L m (own0 ++ [(70, P)]) s) (k : KeepsBut [70] s.heap s3.heap)
    (hT : ∃ o, s3.heap.get? 70 = some o ∧ tabP s3.heap pos q o) (ho : s3.os = s.os) (hg : s3.gens = #[]) (hn : ∀ p ∈ own0, ∀ o, p.2 o → ∀ vs q t, o.data = .fields vs → vs[1]? ≠ some (.str q t)) :
    ∃ g3, Keeps g g3 ∧ At O g3 L m (own0 ++ [(70, tabP g3 pos q)]) s3 ∧ ∀ b o, s3.heap.get? b = some o → s.heap.get? b = none → g3.get? b = some o := by
  obtain ⟨o70, h70, ht⟩ := hT
  have C1 := C.growBut (upd_last own0) (P' := fun o => o = o70) (fun b o hb e => k b o hb e) ⟨o70, h70, rfl⟩ ho (hg.trans C.gens.symm)
  obtain ⟨C2, kg, low⟩ := C1.rebase (List.Sublist.refl _)
  refine ⟨_, kg, C2.weakLast fun o e => ?_, fun b o e n => low b o e (fun q => ?_) (fun q => ?_)⟩
  · subst e
    rcases ht with e | ⟨c', e, hr⟩
    · exact .inl e
    · refine .inr ⟨c', e, ?_⟩
      obtain ⟨c2, oc, vs, t, e2, h1, h2, h3⟩ := hr
      injection e2 with e2
      subst e2
      refine ⟨c', oc, vs, t, rfl, low _ _ h1 (fun q => ?_) (fun q => ?_), h2, h3⟩
      · obtain ⟨oL, es, ep, e4, e5, _⟩ := C1.ns
        rw [← q, h1] at e4; cases e4; rw [h2] at e5; cases e5
      · obtain ⟨p, hp, q⟩ := List.mem_map.mp q
        obtain ⟨o', e4, e5⟩ := C1.ow p hp
        rw [q, h1] at e4
        cases e4
        rcases List.mem_append.mp hp with hp | hp
        · exact hn p hp _ e5 _ _ _ h2 h3
        · rw [List.mem_singleton.mp hp] at e5
          have e5 : oc = o := e5
          rw [e5, e] at h2
          injection h2 with h2
          rw [← h2] at h3
          simp [rawInt] at h3
  · obtain ⟨oL, _, _, e2, _⟩ := C.ns
    rw [q, e2] at n; cases n
  · obtain ⟨p, hp, rfl⟩ := List.mem_map.mp q
    have e : (own0 ++ [((70 : Addr), fun o => o = o70)]).map Prod.fst = (own0 ++ [((70 : Addr), P)]).map Prod.fst := by simp
    have hp2 := List.mem_map_of_mem (f := Prod.fst) hp
    rw [e] at hp2
    obtain ⟨p2, hp3, e3⟩ := List.mem_map.mp hp2
    obtain ⟨o2, e2, _⟩ := C.ow p2 hp3
    rw [e3, n] at e2; cases e2
section
variable {w : World} {A : Around} {E : Value → Shared → Prop} {O : OsState} {g : Heap} {L f : Addr} {m : Str → Option Value} {own0 : Own} {s : Shared}
theorem mkLam {env : Env} {params : Arguments} {body : Expr} {scope : Scope} {pos : Pos} {Q : Value → Shared → Prop} (C : At O g L m (own0 ++ [(70, tabP g pos (env.qual ++ "<lambda>"))]) s) (G : Gd w g)
    (h : ∀ f c' pm ctv g' s', Keeps g g' → At O g' L m (own0 ++ [(70, tabP g' pos (env.qual ++ "<lambda>"))]) s' → g'.get? f = some (kla_obj "<lambda>" (env.qual ++ "<lambda>") params body scope [] pm c' ctv) → g'.CodeRec (.ref c') (env.qual ++ "<lambda>") → Q (.ref f) s')
    (hdef : defaultsOf params env = ([], []) := by rfl) (hcl : closureFor scope env = pure [] := by rfl) (hge : env.globals = mainGlobals := by rfl) (hcode : env.code = .ref 74 := by rfl) :
    wpAny (Md w) A (eval (.Lambda params body scope pos) env) Q E s := by
  refine kla_eval hdef ?_
  have G' := C.gd G
  obtain ⟨mg, hn, hm⟩ := nsMg w s.heap G'.K
  obtain ⟨o, ho, ht⟩ := C.get (List.mem_append_right _ (.head _))
  have hd : CodeHd s.heap 74 70 := codeHd_of_K G'.K (by kernel_rfl)
  have hb := bmAt G'.K hm
  have keyL : ∀ p ∈ own0 ++ [((70 : Addr), tabP g pos (env.qual ++ "<lambda>"))], p.1 < s.heap.objs.size := fun p hp => Heap.lt_size (C.ow p hp).choose_spec.1
  have mk : ∀ (P1 : OP) (s1 : Shared) (c' : Addr), At O g L m (own0 ++ [(70, P1)]) s1 → (∀ h : Heap, Keeps g h → h.CodeRec (.ref c') (env.qual ++ "<lambda>") → ∀ o, P1 o → tabP h pos (env.qual ++ "<lambda>") o) → s1.heap.CodeRec (.ref c') (env.qual ++ "<lambda>") →
      (c' ≠ L ∧ c' ∉ (own0 ++ [((70 : Addr), P1)]).map Prod.fst) → ∀ (f : Addr) (pm ctv : Value), s1.heap.get? f = some (kla_obj "<lambda>" (env.qual ++ "<lambda>") params body scope [] pm c' ctv) → f ≠ L → f ∉ (own0 ++ [((70 : Addr), P1)]).map Prod.fst → Q (.ref f) s1 := by
    intro P1 s1 c' C1 hP hrec ⟨hc1, hc2⟩ f pm ctv hf hf1 hf2
    obtain ⟨C2, kg, low⟩ := C1.rebase (List.Sublist.refl _)
    have hr2 := codeRecK hrec (fun o e => low c' o e hc1 hc2)
    exact h f c' pm ctv _ s1 kg (C2.weakLast (hP _ kg hr2)) (low _ _ hf hf1 hf2) hr2
  rcases ht with rfl | ⟨c', rfl, hrec⟩
  · refine kla_makeFunction (mg := mg) hcl hge hn hcode hd ho trivial rfl (by decide) hb ?_
    intro c' ctv h' tk hx hge' hlt hrec htab
    have k1 : ∀ b o, b ≠ 70 → s.heap.get? b = some o → (h'.push (kla_obj "<lambda>" (env.qual ++ "<lambda>") params body scope [] ((mg "__name__").getD .none) c' ctv)).get? b = some o := fun b o hb e => Heap.get?_push_of_some _ (hx b o hb e)
    have C1 := C.growBut (s' := { s with heap := h'.push (kla_obj "<lambda>" (env.qual ++ "<lambda>") params body scope [] ((mg "__name__").getD .none) c' ctv), toks := tk }) (upd_last own0) (P' := fun o => o = tabObj #[rawInt pos.line, rawInt pos.col, .ref c'])
      (fun b o hb e => k1 b o (fun q => hb (by rw [q]; exact .head _)) e) ⟨_, Heap.get?_push_of_some _ htab, rfl⟩ rfl rfl
    have hLs : L < s.heap.objs.size := C.ns.lt
    have fresh : ∀ b, s.heap.objs.size ≤ b → b ≠ L ∧ ∀ P1 : OP, b ∉ (own0 ++ [((70 : Addr), P1)]).map Prod.fst := by
      intro b hb
      refine ⟨Nat.ne_of_gt (Nat.lt_of_lt_of_le hLs hb), fun P1 q => ?_⟩
      have e : (own0 ++ [((70 : Addr), P1)]).map Prod.fst = (own0 ++ [((70 : Addr), tabP g pos (env.qual ++ "<lambda>"))]).map Prod.fst := by simp
      rw [e] at q
      obtain ⟨p, hp, e⟩ := List.mem_map.mp q
      exact absurd (keyL p hp) (Nat.not_lt_of_le (e ▸ hb))
    refine mk _ _ c' C1 (fun h _ hr o e => .inr ⟨c', e, hr⟩) (codeRecK hrec fun o e => Heap.get?_push_of_some _ e) ⟨(fresh c' hge').1, (fresh c' hge').2 _⟩ _ _ ctv (Heap.get?_push_size _ rfl) ?_ ?_
    · exact (fresh _ (Nat.le_trans hge' (Nat.le_of_lt hlt))).1
    · exact (fresh _ (Nat.le_trans hge' (Nat.le_of_lt hlt))).2 _
  · refine kla_makeFunctionHit (mg := mg) (cv := .ref c') hcl hge hn hcode hd ho trivial (by simp [codeAmong, rawInt]) hb ?_
    intro ctv h' tk hk hsz
    have hLs : L < s.heap.objs.size := C.ns.lt
    have C1 := C.grow (s' := { s with heap := h'.push (kla_obj "<lambda>" (env.qual ++ "<lambda>") params body scope [] ((mg "__name__").getD .none) c' ctv), toks := tk }) (fun b o e => Heap.get?_push_of_some _ (hk b o e)) rfl rfl
    have gne : ∀ b o, g.get? b = some o → b ≠ L ∧ b ∉ (own0 ++ [((70 : Addr), tabP g pos (env.qual ++ "<lambda>"))]).map Prod.fst := by
      intro b o e
      refine ⟨fun q => (by rw [q, C.gL] at e; cases e), fun q => ?_⟩
      obtain ⟨p, hp, q⟩ := List.mem_map.mp q
      rw [← q, (C.gown p hp).1] at e; cases e
    refine mk _ _ c' C1 (fun h kg hr o e => e.keeps kg) (codeRecK hrec fun o e => Heap.get?_push_of_some _ (hk _ _ (C.keep _ _ e))) ?_ _ _ ctv (Heap.get?_push_size _ rfl) ?_ ?_
    · obtain ⟨c2, oc, vs, t, e, h1, _⟩ := hrec
      injection e with e
      exact gne _ _ (e ▸ h1)
    · exact Nat.ne_of_gt (Nat.lt_of_lt_of_le hLs hsz)
    · intro q
      obtain ⟨p, hp, e⟩ := List.mem_map.mp q
      have e' : p.1 = h'.objs.size := e
      exact absurd (keyL p hp) (Nat.not_lt_of_le (e' ▸ hsz))
end
end
-- MLam2
section
noncomputable def nthS (l : List Stmt) (i : Nat) : Stmt := l.getD i (.Pass default)
noncomputable def whileBody : Stmt → List Stmt
  | .While _ b _ _ => b
  | _ => []
noncomputable def ifThen : Stmt → List Stmt
  | .If _ b _ _ => b
  | _ => []
noncomputable def ifElse : Stmt → List Stmt
  | .If _ _ b _ => b
  | _ => []
noncomputable def lamExp : Expr := match nthS (ifElse (nthS (ifThen (nthS (ifElse (nthS (ifElse (nthS (whileBody (nthS (fnBody (stAt PG 10)) 3)) 2)) 0)) 0)) 4)) 2 with
  | .Assign _ (.Call _ (l :: _) _ _) _ => l
  | _ => .Name "" default
noncomputable def lamParams : Arguments := match lamExp with
  | .Lambda p _ _ _ => p
  | _ => default
noncomputable def lamBody : Expr := match lamExp with
  | .Lambda _ b _ _ => b
  | e => e
noncomputable def lamScope : Scope := match lamExp with
  | .Lambda _ _ c _ => c
  | _ => default
noncomputable def lamPos : Pos := match lamExp with
  | .Lambda _ _ _ p => p
  | _ => default
theorem lamPos_is : lamPos = ⟨67, 39, 67, 76⟩ := by kernel_rfl
noncomputable def lamQ : Str := ("_translate" : Str) ++ ".<locals>." ++ "<lambda>"
section
variable {w : World} {A : Around} {E : Value → Shared → Prop} {O : OsState} {g : Heap} {L : Addr} {m : Str → Option Value} {own2 : Own} {s : Shared}
theorem lamCall {fn c' f tup a c k : Nat} {pm ctv : Value} {l : List Nat} {ts : Tok} {Q : Value → Shared → Prop} (C : At O g L m own2 s) (G : Gd w g) (hf : g.get? fn = some (kla_obj "<lambda>" lamQ lamParams lamBody lamScope [] pm c' ctv)) (hrec : g.CodeRec (.ref c') lamQ)
    (R : Rm k A) (hk : k ≤ 90) (hl : l.length ≤ 200000) (h1 : (f, matP (.str (S l) ts) (.ref 49) l.length tup) ∈ own2) (h2 : (tup, tupP [rawInt (a : Int), rawInt ((a + 1 : Nat) : Int), rawInt (a : Int), rawInt ((a + 1 : Nat) : Int)]) ∈ own2) (ha : l[a]? = some c)
    (h : ∀ t s', At O g L m own2 s' → Q (.str (S [92, c]) t) s') : wpAny (Md w) A (call (.ref fn) [.ref f]) Q E s := by
  obtain ⟨o1, ho1, hm1⟩ := C.get h1
  obtain ⟨o2, ho2, hm2⟩ := C.get h2
  refine callL (qual := lamQ) (scope := lamScope) (cdv := .ref c') (e := lamBody) (binds := [("_m", .ref f)]) (C.gd G) R (by walk_at "om") (C.keep _ _ hf) rfl rfl rfl rfl rfl rfl rfl (codeRecK hrec fun o e => C.keep _ _ e) (BindsTo.of_eq rfl) (by kernel_rfl) (by kernel_rfl) rfl rfl rfl C.gens ?_
  intro L' s1 C1
  have R' := R.deeper (envOf lamQ lamScope L' fn (.ref c'))
  refine wpAny_BinOp ?_
  walk_at "mms"
  walk_at "mbo"
  walk_at "mms"
  rename At _ _ _ _ _ _ => C2
  refine mGroup ⟨o1, C2.keep _ _ ho1, hm1⟩ ?_
  walk_at "mms"
  rename At _ _ _ _ _ _ => C3
  refine callGroup C3 (by unfold sizeLine; lia) ha ⟨o1, C3.keep _ _ ho1, hm1⟩ ⟨o2, C3.keep _ _ ho2, hm2⟩ ?_
  clear C3
  intro _ _ _
  walk_at "mms"
  refine (if_pos (by simp)).mpr ?_
  walk_at "mms"
  rename At _ _ _ _ _ _ => C4
  exact h _ _ (C.grow C4.keep C4.os (C4.gens.trans C.gens.symm))
end
end
-- MTr
section
noncomputable def dblB (l : List Nat) : List Nat := StrLaws.dbl 92 l
noncomputable def setT (neg : Bool) (b : List Nat) : List Nat := 91 :: ((if neg then [94] else if b.head? = some 94 ∨ b.head? = some 91 then [92] else []) ++ subT (dblB b)) ++ [93]
noncomputable def partStep (ps : List Part) : Tk → List Part
  | .star => if ps.getLast? = some none then ps else ps ++ [none]
  | .qm => ps ++ [some [46]]
  | .one c => ps ++ [some (escT c)]
  | .set neg b => ps ++ [some (setT neg b)]
noncomputable def partsOf (p : List Nat) : List Part := (toks p).foldl partStep []
noncomputable def eB (c : Nat) : List Nat := if c = 92 then [92, 92] else if amp c = true then [92, c] else [c]
theorem sd_nil : subT (dblB []) = [] := rfl
theorem sd_cons (c : Nat) (t : List Nat) : subT (dblB (c :: t)) = eB c ++ subT (dblB t) := by
  unfold dblB
  rw [StrLaws.dbl]
  unfold eB
  by_cases e : c = 92
  · subst e; simp [subT, amp]
  · simp [e, subT]
theorem dblB_len : ∀ l : List Nat, (dblB l).length ≤ 2 * l.length
  | [] => Nat.le_refl _
  | c :: t => by
    have := dblB_len t
    unfold dblB at this ⊢
    rw [StrLaws.dbl]
    split <;> simp <;> lia
theorem eB_pos (c : Nat) : eB c ≠ [] := by unfold eB; split <;> (try split) <;> simp
theorem sd_ne {l : List Nat} (h : l ≠ []) : subT (dblB l) ≠ [] := by
  cases l with
  | nil => exact absurd rfl h
  | cons c t => rw [sd_cons]; simp [eB_pos]
theorem sd_len (l : List Nat) : (subT (dblB l)).length ≤ 4 * l.length := by
  have := subT_len (dblB l); have := dblB_len l; lia
theorem setT_eq {neg : Bool} {body : List Nat} (hb : body ≠ []) (h33 : neg = false → body.head? ≠ some 33) {x0 : Nat} {X' : List Nat} (hX : subT (dblB ((if neg then [33] else []) ++ body)) = x0 :: X') :
    x0 :: X' ≠ [33] ∧ setT neg body = 91 :: ((if x0 = 33 then 94 :: X' else if x0 = 94 ∨ x0 = 91 then 92 :: x0 :: X' else x0 :: X') ++ [93]) := by
  cases neg with
  | true =>
    rw [if_pos rfl, List.singleton_append, sd_cons, show eB 33 = [33] from rfl, List.singleton_append] at hX
    injection hX with h1 h2
    subst h1
    rw [← h2]
    refine ⟨fun q => sd_ne hb (List.cons.inj q).2, ?_⟩
    rw [if_pos rfl]; rfl
  | false =>
    rw [if_neg Bool.false_ne_true, List.nil_append] at hX
    cases body with
    | nil => exact absurd rfl hb
    | cons d bt =>
      have hd : d ≠ 33 := fun e => h33 rfl (by rw [e]; rfl)
      have e1 : setT false (d :: bt) = 91 :: (((if d = 94 ∨ d = 91 then [92] else []) ++ (x0 :: X')) ++ [93]) := by
        unfold setT; rw [hX]; simp
      rw [e1]
      rw [sd_cons] at hX
      unfold eB at hX
      by_cases h2 : d = 92
      · rw [if_pos h2] at hX
        have hx : x0 = 92 := (List.cons.inj hX).1.symm
        subst hx h2
        exact ⟨by simp, by simp⟩
      · rw [if_neg h2] at hX
        by_cases h3 : amp d = true
        · rw [if_pos h3] at hX
          have hx : x0 = 92 := (List.cons.inj hX).1.symm
          subst hx
          have h4 : ¬ (d = 94 ∨ d = 91) := by rintro (e | e) <;> subst e <;> exact absurd h3 (by decide)
          exact ⟨by simp, by simp [h4]⟩
        · rw [if_neg h3] at hX
          have hx : x0 = d := (List.cons.inj hX).1.symm
          subst hx
          refine ⟨fun q => hd (List.cons.inj q).1, ?_⟩
          rw [if_neg hd]
          by_cases h5 : x0 = 94 ∨ x0 = 91
          · rw [if_pos h5, if_pos h5]; rfl
          · rw [if_neg h5, if_neg h5]; rfl
theorem All2.unsnocL {α β : Type} {R : α → β → Prop} {l : List α} {l' : List β} {a : α} (h : All2 R (l ++ [a]) l') : ∃ k b, l' = k ++ [b] ∧ All2 R l k ∧ R a b := by
  induction l generalizing l' with
  | nil => cases h with
    | cons h t => cases t; exact ⟨[], _, rfl, .nil, h⟩
  | cons x l ih => cases h with
    | cons h t => obtain ⟨k, a, rfl, q, r⟩ := ih t; exact ⟨_ :: k, a, rfl, .cons h q, r⟩
noncomputable def trM (p : List Nat) (t u tn : Tok) (res b ST : Addr) (m : Str → Option Value) : Prop :=
  m "n" = some (.int (p.length : Nat) tn) ∧ m "pat" = some (.str (S p) t) ∧ m "res" = some (.ref res) ∧ m "add" = some (.ref b) ∧ m "STAR" = some (.ref ST) ∧ m "QUESTION_MARK" = some (.str (S [46]) u)
theorem trM.up {p : List Nat} {t u tn : Tok} {res b ST : Addr} {m m' : Str → Option Value} {x : Str} {v : Value} (h : trM p t u tn res b ST m) (U : Up m x v m') (k : ((["n", "pat", "res", "add", "STAR", "QUESTION_MARK"] : List String).all fun y => !((y : Str) == x)) = true) : trM p t u tn res b ST m' := by
  simp only [List.all_cons, List.all_nil, Bool.and_true, Bool.and_eq_true, Bool.not_eq_true'] at k
  obtain ⟨k1, k2, k3, k4, k5, k6⟩ := k
  obtain ⟨h1, h2, h3, h4, h5, h6⟩ := h
  exact ⟨U.other h1 k1, U.other h2 k2, U.other h3 k3, U.other h4 k4, U.other h5 k5, U.other h6 k6⟩
inductive TrJ (O : OsState) (g : Heap) (L : Addr) (p : List Nat) (t u tn : Tok) (ST b res : Addr) (vs : List Value) (i v : Nat) (fl : Flow) (s' : Shared) : Prop
  | mk (hf : fl = .next) (m' : Str → Option Value) (tj ti : Tok) (C : At O g L m' [(b, bmP res), (res, lst vs), (70, tabP g lamPos lamQ)] s') (h : trM p t u tn res b ST m') (n7 : m' "i" = some (.int ((i + 1 : Nat) : Int) ti)) (n8 : m' "j" = some (.int (v : Nat) tj))
inductive TrK (O : OsState) (g : Heap) (L : Addr) (p : List Nat) (t u tn : Tok) (ST b res : Addr) (vs : List Value) (i : Nat) (Y : List Nat) (fl : Flow) (s' : Shared) : Prop
  | mk (hf : fl = .next) (m' : Str → Option Value) (ts ti : Tok) (C : At O g L m' [(b, bmP res), (res, lst vs), (70, tabP g lamPos lamQ)] s') (h : trM p t u tn res b ST m') (n7 : m' "i" = some (.int (i : Nat) ti)) (n8 : m' "stuff" = some (.str (S Y) ts))
inductive TrInv (s : Shared) (p : List Nat) (t u : Tok) (ST b res : Addr) (n : Nat) (g : Heap) (m : Str → Option Value) (own : Own) : Prop
  | mk (i : Nat) (pre : List Tk) (vs : List Value) (tk tn : Tok) (e : n = p.length - i) (hi : i ≤ p.length) (hT : toks p = pre ++ toks (p.drop i)) (hP : PartsV ST vs (pre.foldl partStep [])) (kg : Keeps (dropA s.heap [70]) g)
    (eo : own = [(b, bmP res), (res, lst vs), (70, tabP g lamPos lamQ)]) (m1 : m "i" = some (.int (i : Nat) tk)) (m2 : trM p t u tn res b ST m) (l : vs.length ≤ i)
inductive TrIn2 (g : Heap) (p : List Nat) (t u tn ti2 : Tok) (ST b res : Addr) (vs : List Value) (i fi k : Nat) (g2 : Heap) (m : Str → Option Value) (own : Own) : Prop
  | mk (jj : Nat) (tj : Tok) (e : k = p.length - jj) (eg : g2 = g) (eo : own = [(b, bmP res), (res, lst vs), (70, tabP g lamPos lamQ)]) (h1 : trM p t u tn res b ST m) (h2 : m "i" = some (.int ((i + 1 : Nat) : Int) ti2)) (h3 : m "j" = some (.int (jj : Nat) tj))
    (q1 : fi ≤ jj) (q2 : jj ≤ p.length) (q3 : ∀ k, fi + 1 ≤ k → k < jj → p[k]? ≠ some 93) (q4 : jj = fi → p[fi]? ≠ some 93)
theorem spTr {w : World} {A : Around} {E : Value → Shared → Prop} {s : Shared} {p : List Nat} {t u : Tok} {ST : Addr} {j : Nat} {Q : Value → Shared → Prop} (G : Gd w (dropA s.heap [70])) (G0 : Gd w s.heap) (R : Rm j A) (hj : j ≤ 80) (hg : s.gens = #[]) (hx : p.length ≤ 40000) (hno : 45 ∉ p)
    (hT : ∃ o, s.heap.get? 70 = some o ∧ tabP (dropA s.heap [70]) lamPos lamQ o)
    (h : ∀ l vs s', KeepsBut [70] s.heap s'.heap → s'.os = s.os → s'.gens = #[] → (∃ o, s'.heap.get? 70 = some o ∧ tabP s'.heap lamPos lamQ o) → s.heap.get? l = none → ListIn s'.heap l vs → PartsV ST vs (partsOf p) → Q (.ref l) s') :
    wpAny (Md w) A (call (.ref 75) [.str (S p) t, .ref ST, .str (S [46]) u]) Q E s := by
  refine callK (binds := [("pat", .str (S p) t), ("STAR", .ref ST), ("QUESTION_MARK", .str (S [46]) u)]) G0 R (by walk_at "om") (lk75 w) (cd75 w) (BindsTo.of_eq rfl) rfl (by kernel_rfl) rfl rfl rfl hg [(70, tabP (dropA s.heap [70]) lamPos lamQ)] (by simpa using hT) (by simp) ?_
  intro L s' C _
  change At s.os (dropA s.heap [70]) L _ _ s' at C
  have R' := R.deeper (envOf "_translate" (fnScope (stAt PG 10)) L 75 (.ref 74))
  walk_at "xs"
  walk_at "mms"
  refine asgT2 R'.handled ?_
  walk_at "mms"
  rename At _ _ _ _ _ _ => C
  refine ⟨_, _, _, _, C, ?_⟩
  clear C
  intro s2 C2
  walk_at "mms"
  rename_i res _ _ _ _ b _ _ _ _ _ _ _ _
  change At s.os _ L _ _ _ at C2
  refine wpAny_While ?_
  walk_at "hr"
  refine whileR (TrInv s p t u ST b res) ?_ p.length ?_ C2
  · intro n g m own s2 hI C2
    obtain ⟨i, pre, vs, tk, tn, rfl, hi, hTk, hP, kg, rfl, m1, M0, l1⟩ := hI
    obtain ⟨m2, m3, m4, m5, m6, m7⟩ := id M0
    have Gg := G.keeps kg
    walk_at "hw"
    walk_at "mms"
    refine br (fun hc => ?_) (fun hc => ?_)
    · obtain ⟨c, hc⟩ : ∃ c, p[i]? = some c := ⟨_, List.getElem?_eq_getElem hc⟩
      have hil : i < p.length := (List.getElem?_eq_some_iff.mp hc).1
      have hpd : p.drop i = c :: p.drop (i + 1) := by rw [List.drop_eq_getElem?_toList_append, hc]; rfl
      generalize hr : p.drop (i + 1) = r at *
      walk_at "mms"
      refine br (fun hb => ?_) (fun hb => ?_)
      · -- a star
        obtain rfl : c = 42 := by simpa using hb
        have lx : lexTok 42 r = (.star, r) := if_pos rfl
        have fin : ∀ (vs' : List Value) (s3 : Shared) (m3 : Str → Option Value), PartsV ST vs' (partStep (pre.foldl partStep []) .star) → vs'.length ≤ i + 1 → (∃ tk, m3 "i" = some (.int ((i + 1 : Nat) : Int) tk)) → trM p t u tn res b ST m3 → At s.os g L m3 [(b, bmP res), (res, lst vs'), (70, tabP g lamPos lamQ)] s3 →
            WhNext (TrInv s p t u ST b res) (p.length - i) s.os L s3 := by
          rintro vs' s3 m3 q1 q2 ⟨tk, q3⟩ q4 C
          refine ⟨p.length - (i + 1), g, _, _, by walk_at "om", ⟨i + 1, pre ++ [.star], vs', _, _, rfl, hil, ?_, ?_, kg, rfl, q3, q4, q2⟩, C⟩
          · rw [hTk, hpd, toks_cons, lx, hr]; simp
          · rw [List.foldl_append]; exact q1
        walk_at "mms"
        refine brB (fun hv => ?_) (fun hv => ?_)
        · obtain rfl : vs = [] := by simpa using hv
          have hp0 : pre.foldl partStep [] = [] := by have := hP.length; exact List.length_eq_zero_iff.mp this.symm
          walk_at "mms"
          rename At _ _ _ _ _ _ => C
          refine fin _ _ _ ?_ (by simp) ⟨_, by walk_at "mm lk"⟩ (by repeat (first | exact M0 | with_reducible assumption | refine trM.up ?_ (by with_reducible assumption) (by kernel_rfl!))) C
          rw [hp0]; exact .cons rfl .nil
        · obtain ⟨v0, x, rfl⟩ : ∃ v0 x, vs = v0 ++ [x] := by
            rcases List.eq_nil_or_concat vs with e | ⟨v0, x, e⟩
            · exact absurd (by rw [e]; simp) (Bool.eq_false_iff.mp hv)
            · exact ⟨v0, x, by simpa using e⟩
          obtain ⟨k0, y, hk0, hP0, hxy⟩ := hP.unsnocL
          have l2 : v0.length ≤ 100000 := by simp at l1; lia
          walk_at "mms"
          refine isNotStar hxy ?_
          walk_at "mms"
          refine brB (fun hy => ?_) (fun hy => ?_)
          · walk_at "mms"
            rename At _ _ _ _ _ _ => C
            refine fin _ _ _ ?_ (by simp at l1 ⊢; lia) ⟨_, by walk_at "mm lk"⟩ (by repeat (first | exact M0 | with_reducible assumption | refine trM.up ?_ (by with_reducible assumption) (by kernel_rfl!))) C
            have e : partStep (pre.foldl partStep []) .star = k0 ++ [y] ++ [none] := by
              rw [hk0]; show (if (k0 ++ [y]).getLast? = some none then _ else _) = _
              rw [if_neg (by rw [List.getLast?_concat]; intro q; cases q; exact absurd hy Bool.false_ne_true)]
            rw [e, ← hk0]; exact hP.append (.cons rfl .nil)
          · walk_at "mms"
            rename At _ _ _ _ _ _ => C
            refine fin _ _ _ ?_ (by walk_at "om") ⟨_, by walk_at "mm lk"⟩ (by repeat (first | exact M0 | with_reducible assumption | refine trM.up ?_ (by with_reducible assumption) (by kernel_rfl!))) C
            have e : partStep (pre.foldl partStep []) .star = pre.foldl partStep [] := by
              rw [hk0]; show (if (k0 ++ [y]).getLast? = some none then _ else _) = _
              rw [if_pos (by rw [List.getLast?_concat]; cases y with | none => rfl | some z => exact absurd hy (by simp))]
            rw [e]; exact hP
      · have hc42 : c ≠ 42 := by simpa using hb
        walk_at "mms"
        refine br (fun hb => ?_) (fun hb => ?_)
        · -- a question mark
          obtain rfl : c = 63 := by simpa using hb
          have lx : lexTok 63 r = (.qm, r) := by unfold lexTok; rfl
          walk_at "mms"
          rename At _ _ _ _ _ _ => C
          refine ⟨p.length - (i + 1), _, _, _, by walk_at "om", ⟨i + 1, pre ++ [.qm], vs ++ [_], _, tn, rfl, hil, ?_, ?_, kg, rfl, by walk_at "mm lk", (by repeat (first | exact M0 | with_reducible assumption | refine trM.up ?_ (by with_reducible assumption) (by kernel_rfl!))), by simp; lia⟩, C⟩
          · rw [hTk, hpd, toks_cons, lx, hr]; simp
          · rw [List.foldl_append]; exact hP.append (.cons ⟨_, rfl⟩ .nil)
        · have hc63 : c ≠ 63 := by simpa using hb
          walk_at "mms"
          refine br (fun hb => ?_) (fun hb => ?_)
          · -- a bracket
            obtain rfl : c = 91 := by simpa using hb
            walk_at "mm"
            walk_at "mm"
            walk_at "mm"
            walk_at "mm"
            walk_at "mm"
            refine wpAny_execs_cons ?_
            rename At _ _ _ _ _ _ => C
            have hrl : r.length = p.length - (i + 1) := by rw [← hr]; simp
            have hrg : ∀ k : Nat, r[k]? = p[i + 1 + k]? := fun k => by rw [← hr, List.getElem?_drop]
            generalize hfi : i + 1 + skipOf r = fi
            have hfi1 : fi ≤ p.length := by
              rw [← hfi]; unfold skipOf; split
              · rename_i e
                have : r ≠ [] := fun q => by rw [q] at e; cases e
                have := List.length_pos_iff.mpr this; lia
              · lia
            refine cutP (TrJ s.os g L p t u tn ST b res vs i fi) ?_ ?_
            · walk_at "hx"
              walk_at "mms"
              refine br (fun h1 => ?_) (fun h1 => ?_)
              · obtain ⟨d, hd⟩ : ∃ d, p[i + 1]? = some d := ⟨_, List.getElem?_eq_getElem h1⟩
                have hr1 : r.take 1 = [d] := by
                  have := hrg 0
                  rw [Nat.add_zero, hd] at this
                  cases r with
                  | nil => cases this
                  | cons x y => simp at this; rw [this]; rfl
                walk_at "mms"
                refine br (fun h2 => ?_) (fun h2 => ?_)
                · walk_at "mms"
                  rename At _ _ _ _ _ _ => C
                  refine ⟨rfl, _, _, _, C, (by repeat (first | exact M0 | with_reducible assumption | refine trM.up ?_ (by with_reducible assumption) (by kernel_rfl!))), by walk_at "mm lk", by rw [← hfi, show skipOf r = 1 from if_pos (by rw [hr1, h2])]; exact Up.same (by assumption)⟩
                · walk_at "mms"
                  rename At _ _ _ _ _ _ => C
                  refine ⟨rfl, _, _, _, C, (by repeat (first | exact M0 | with_reducible assumption | refine trM.up ?_ (by with_reducible assumption) (by kernel_rfl!))), by walk_at "mm lk", by rw [← hfi, show skipOf r = 0 from if_neg (by rw [hr1]; exact h2)]; exact Up.same (by assumption)⟩
              · have hr0 : r = [] := List.length_eq_zero_iff.mp (by walk_at "om")
                walk_at "mms"
                rename At _ _ _ _ _ _ => C
                refine ⟨rfl, _, _, _, C, (by repeat (first | exact M0 | with_reducible assumption | refine trM.up ?_ (by with_reducible assumption) (by kernel_rfl!))), by walk_at "mm lk", by rw [← hfi, show skipOf r = 0 by rw [hr0]; rfl]; exact Up.same (by assumption)⟩
            · clear C
              clear M0
              rintro fl s3 ⟨rfl, m', tj, ti, C, M0, n7, n8⟩
              obtain ⟨n1, n2, n3, n4, n5, n6⟩ := id M0
              dsimp only
              refine wpAny_execs_cons ?_
              refine cutP (TrJ s.os g L p t u tn ST b res vs i (fi + (if p[fi]? = some 93 then 1 else 0))) ?_ ?_
              · walk_at "hx"
                walk_at "mms"
                refine br (fun h1 => ?_) (fun h1 => ?_)
                · obtain ⟨d, hd⟩ : ∃ d, p[fi]? = some d := ⟨_, List.getElem?_eq_getElem h1⟩
                  walk_at "mms"
                  refine br (fun h2 => ?_) (fun h2 => ?_)
                  · walk_at "mms"
                    rename At _ _ _ _ _ _ => C
                    refine ⟨rfl, _, _, _, C, (by repeat (first | exact M0 | with_reducible assumption | refine trM.up ?_ (by with_reducible assumption) (by kernel_rfl!))), by walk_at "mm lk", by rw [if_pos (by rw [hd, (List.cons.inj h2).1])]; exact Up.same (by assumption)⟩
                  · walk_at "mms"
                    rename At _ _ _ _ _ _ => C
                    refine ⟨rfl, _, _, _, C, (by repeat (first | exact M0 | with_reducible assumption | refine trM.up ?_ (by with_reducible assumption) (by kernel_rfl!))), by walk_at "mm lk", by rw [if_neg (by rw [hd]; intro q; cases q; exact h2 rfl)]; exact n8⟩
                · walk_at "mms"
                  rename At _ _ _ _ _ _ => C
                  refine ⟨rfl, _, _, _, C, (by repeat (first | exact M0 | with_reducible assumption | refine trM.up ?_ (by with_reducible assumption) (by kernel_rfl!))), by walk_at "mm lk", by rw [if_neg (by rw [List.getElem?_eq_none (by walk_at "om")]; intro q; cases q)]; exact n8⟩
              · clear C M0 n1 n2 n3 n4 n5 n6 n7 n8
                rintro fl s4 ⟨rfl, m2, tj2, ti2, C, M0, n7, n8⟩
                generalize hj0 : fi + (if p[fi]? = some 93 then 1 else 0) = j0 at n8
                have hj0f : fi ≤ j0 := by rw [← hj0]; lia
                have hj0p : j0 ≤ p.length := by
                  rw [← hj0]; split
                  · rename_i e; have := (List.getElem?_eq_some_iff.mp e).1; lia
                  · lia
                have hj0n : j0 = fi → p[fi]? ≠ some 93 := by
                  intro e q; rw [if_pos q] at hj0; lia
                dsimp only
                walk_at "mm"
                refine wpAny_While ?_
                walk_at "hr"
                refine whileR (TrIn2 g p t u tn ti2 ST b res vs i fi) ?_ (p.length - j0) ⟨j0, _, rfl, rfl, rfl, M0, n7, n8, hj0f, hj0p, ?_, hj0n⟩ C
                · clear C M0 n7 n8
                  rintro k g2 m3 own3 s5 ⟨jj, tj, rfl, rfl, rfl, M0, n7, n8, q1, q2, q3, q4⟩ C
                  obtain ⟨n1, n2, n3, n4, n5, n6⟩ := id M0
                  refine cutP (fun bb s' => At s.os g2 L m3 [(b, bmP res), (res, lst vs), (70, tabP g2 lamPos lamQ)] s' ∧ bb = decide (jj < p.length ∧ p[jj]? ≠ some 93)) ?_ ?_
                  · walk_at "hx"
                    walk_at "mms"
                    refine br (fun h1 => ?_) (fun h1 => ?_)
                    · obtain ⟨d, hd⟩ : ∃ d, p[jj]? = some d := ⟨_, List.getElem?_eq_getElem h1⟩
                      walk_at "mms"
                      refine brB (fun h2 => ?_) (fun h2 => ?_)
                      · walk_at "mms"
                        rename At _ _ _ _ _ _ => C
                        have h3 : d ≠ 93 := by intro e; subst e; simp at h2
                        exact ⟨C, by rw [hd]; simp [h1, h3]⟩
                      · rename At _ _ _ _ _ _ => C
                        have h3 : d = 93 := by simpa using h2
                        walk_at "ho"
                        exact ⟨C, by rw [hd, h3]; simp⟩
                    · rename At _ _ _ _ _ _ => C
                      walk_at "ho"
                      exact ⟨C, by simp [h1]⟩
                  · clear C
                    rintro bb s6 ⟨C, rfl⟩
                    refine br (fun h1 => ?_) (fun h1 => ?_)
                    · walk_at "mms"
                      rename At _ _ _ _ _ _ => C
                      refine ⟨p.length - (jj + 1), _, _, _, by walk_at "om", ⟨jj + 1, _, rfl, rfl, rfl, (by repeat (first | exact M0 | with_reducible assumption | refine trM.up ?_ (by with_reducible assumption) (by kernel_rfl!))), by walk_at "mm lk", by walk_at "mm lk", by walk_at "om", by walk_at "om", ?_, by walk_at "om"⟩, C⟩
                      intro k k1 k2
                      by_cases e : k = jj
                      · rw [e]; exact h1.2
                      · exact q3 k k1 (by walk_at "om")
                    · walk_at "mms"
                      refine br (fun h2 => ?_) (fun h2 => ?_)
                      · -- no end
                        have lx : lexTok 91 r = (.one 91, r) := by
                          unfold lexTok
                          rw [if_neg (by decide), if_neg (by decide), if_pos rfl]
                          have : (r.drop (skipOf r + 1)).findIdx? (· == 93) = none := by
                            rw [List.findIdx?_eq_none_iff]
                            intro x hx
                            obtain ⟨k, hk⟩ := List.mem_iff_getElem?.mp hx
                            rw [List.getElem?_drop, hrg] at hk
                            have hlt := (List.getElem?_eq_some_iff.mp hk).1
                            have := q3 (i + 1 + (skipOf r + 1 + k)) (by walk_at "om") (by walk_at "om")
                            rw [hk] at this
                            simpa using this
                          rw [this]
                        walk_at "mms"
                        rename At _ _ _ _ _ _ => C
                        refine ⟨p.length - (i + 1), _, _, _, by walk_at "om", ⟨i + 1, pre ++ [.one 91], vs ++ [_], _, tn, rfl, hil, ?_, ?_, kg, rfl, by walk_at "mm lk", (by repeat (first | exact M0 | with_reducible assumption | refine trM.up ?_ (by with_reducible assumption) (by kernel_rfl!))), by simp; lia⟩, C⟩
                        · rw [hTk, hpd, toks_cons, lx, hr]; simp
                        · rw [List.foldl_append]; exact hP.append (.cons ⟨_, rfl⟩ .nil)
                      · -- a bracket's end at jj
                        have hj93 : p[jj]? = some 93 := by
                          by_cases e : p[jj]? = some 93
                          · exact e
                          · exact absurd ⟨by walk_at "om", e⟩ h1
                        have hjf : fi + 1 ≤ jj := by
                          rcases Nat.lt_or_ge fi jj with e | e
                          · exact e
                          · exact absurd (show p[fi]? = some 93 by rw [show fi = jj by lia]; exact hj93) (q4 (by walk_at "om"))
                        obtain ⟨q, hq⟩ : ∃ q, jj = fi + 1 + q := ⟨jj - (fi + 1), by walk_at "om"⟩
                        have hfind : (r.drop (skipOf r + 1)).findIdx? (· == 93) = some q := by
                          rw [List.findIdx?_eq_some_iff_getElem]
                          have g0 : ∀ k, (r.drop (skipOf r + 1))[k]? = p[fi + 1 + k]? := fun k => by rw [List.getElem?_drop, hrg]; congr 1; lia
                          have g1 := g0 q
                          rw [← hq, hj93] at g1
                          obtain ⟨a1, a2⟩ := List.getElem?_eq_some_iff.mp g1
                          refine ⟨a1, by rw [a2]; rfl, fun k hk => ?_⟩
                          have g2 := g0 k
                          have := q3 (fi + 1 + k) (by walk_at "om") (by walk_at "om")
                          rw [← g2, List.getElem?_eq_getElem (by walk_at "om")] at this
                          simpa using this
                        generalize hneg : decide (r.take 1 = [33]) = neg
                        generalize hbody : (r.drop (skipOf r)).take (q + 1) = body
                        have lx : lexTok 91 r = (.set neg body, r.drop (skipOf r + 1 + q + 1)) := by
                          unfold lexTok
                          rw [if_neg (by decide), if_neg (by decide), if_pos rfl, hfind]
                          simp only [hbody]
                          rw [← hneg]
                        have hqlen : skipOf r + 1 + q < r.length := by
                          have := (List.findIdx?_eq_some_iff_getElem.mp hfind).1
                          simp at this; lia
                        have hblen : body.length = q + 1 := by rw [← hbody]; simp; lia
                        have hraw : r.take (skipOf r + q + 1) = (if neg then [33] else []) ++ body := by
                          rw [show skipOf r + q + 1 = skipOf r + (q + 1) by walk_at "om", List.take_add, hbody]
                          congr 1
                          unfold skipOf
                          by_cases e : r.take 1 = [33]
                          · rw [if_pos e, e, ← hneg, decide_eq_true e]; rfl
                          · rw [if_neg e, ← hneg, decide_eq_false e]; rfl
                        walk_at "mms"
                        refine slS ?_ (by intro _ _; rfl)
                        walk_at "mms"
                        rename At _ _ _ _ _ _ => C
                        refine ⟨p, _, some ((i + 1 : Nat) : Int), some ((jj : Nat) : Int), _, _, _, _, _, rfl, C, by walk_at "sz", .int _ _, .int _ _, ?_⟩
                        rw [slice_nat p (by walk_at "om") (by walk_at "om"), hr, show jj - (i + 1) = skipOf r + q + 1 by walk_at "om", hraw]
                        clear C
                        intro _ _ _
                        have hno2 : 45 ∉ (if neg then [33] else []) ++ body := by
                          rw [← hraw, ← hr]; intro q; exact hno (List.mem_of_mem_drop (List.mem_of_mem_take q))
                        have hrawl : ((if neg then [33] else []) ++ body).length ≤ 40000 := by
                          rw [← hraw]; simp; lia
                        generalize hst : (if neg then [33] else []) ++ body = raw at *
                        walk_at "mm"
                        walk_at "ho"
                        refine wpAny_execs_cons ?_
                        rename At _ _ _ _ _ _ => C
                        refine wpAny_If (wpAny_isTrue_Compare1 ?_)
                        refine wpAny_Constant_str ?_
                        refine ldL (C.toks _) (by walk_at "mm lk") ?_
                        rw [Lit.e (x := Str.ofString "-") (by walk_at "lit")]
                        refine notInS ?_
                        refine wpAny_truthy_bool ?_
                        refine brB (fun _ => ?_) (fun h => ?_)
                        rotate_left
                        · exact absurd h (by simp [hno2])
                        refine wpAny_execs_cons (wpAny_Assign_Name (MethodCall_ ?_))
                        refine ldL (C.toks _) (by walk_at "mm lk") ?_
                        refine GM.replace ?_
                        walk_at "mm"
                        walk_at "mm"
                        refine wpAny_Constant_str ?_
                        walk_at "mm"
                        refine wpAny_Constant_str ?_
                        walk_at "mm"
                        refine SC.replaceW (Nat.succ_ne_zero _) (Nat.succ_ne_zero _) (Nat.ne_of_lt (Nat.lt_succ_self _)) (by decide +kernel) (by rw [S_len]; lia) (by decide +kernel) ?_
                        intro ts ks
                        rw [replace_dbl _ _ _ 92 (by kernel_rfl) (by kernel_rfl)]
                        have C := C.toks ks
                        change wpAny _ _ (storeName _ _ (.str (S (dblB raw)) ts)) _ _ _
                        walk_at "mms"
                        refine mSub (At.gd (by assumption) Gg) ?_
                        walk_at "mm"
                        walk_at "mm"
                        rename At _ _ _ _ _ _ => C
                        refine mkLam (own0 := [(b, bmP res), (res, lst vs)]) C Gg ?_
                        intro fn c' pm ctv g' s7 kg' C7 hfn hrec
                        clear C
                        have Gg' := Gg.keeps kg'
                        change At s.os g' L _ [(b, bmP res), (res, lst vs), (70, tabP g' lamPos lamQ)] s7 at C7
                        walk_at "mms"
                        rename At _ _ _ _ _ _ => C
                        refine subR C (by have := dblB_len raw; lia) Gg' (C.keep _ _ hfn) rfl (fun f tup a c own2 s2 Q' E' C2 h1 h2 ha hk => lamCall C2 Gg' hfn hrec R'.in1 (by walk_at "om") (by have := dblB_len raw; lia) h1 h2 ha hk) ?_
                        clear C
                        intro _ _ _
                        have hXl : (subT (dblB raw)).length ≤ 160000 := by have := sd_len raw; lia
                        have hrawne : raw ≠ [] := by
                          rw [← hst]; intro q; rw [List.append_eq_nil_iff] at q; rw [q.2] at hblen; simp at hblen
                        obtain ⟨x0, X', hXc⟩ : ∃ x0 X', subT (dblB raw) = x0 :: X' := by
                          cases e : subT (dblB raw) with
                          | nil => exact absurd e (sd_ne hrawne)
                          | cons a b => exact ⟨a, b, rfl⟩
                        obtain ⟨hX1, hset⟩ := setT_eq (neg := neg) (body := body) (by intro q; rw [q] at hblen; simp at hblen) (by
                          intro en eh
                          rw [en] at hneg
                          have hne : r.take 1 ≠ [33] := of_decide_eq_false hneg
                          rw [← hbody, show skipOf r = 0 from if_neg hne, List.drop_zero] at eh
                          cases r with
                          | nil => simp at eh
                          | cons d y => simp at eh; subst eh; exact hne rfl) (by rw [hst]; exact hXc)
                        rw [hXc] at hXl ⊢
                        have hXg : (x0 :: X')[0]? = some x0 := rfl
                        walk_at "mms"
                        refine brB (fun h => ?_) (fun h => ?_)
                        · exact absurd h (by simp)
                        walk_at "mms"
                        refine br (fun h => absurd h hX1) (fun _ => ?_)
                        refine wpAny_execs_cons ?_
                        rename At _ _ _ _ _ _ => C
                        generalize hY : (if x0 = 33 then 94 :: X' else if x0 = 94 ∨ x0 = 91 then 92 :: x0 :: X' else x0 :: X') = Y at hset
                        have hYl : Y.length ≤ 160001 := by
                          rw [← hY]; simp at hXl; split <;> (try split) <;> simp <;> lia
                        refine cutP (TrK s.os g' L p t u tn ST b res vs (jj + 1) Y) ?_ ?_
                        · walk_at "hx"
                          walk_at "mms"
                          refine br (fun h3 => ?_) (fun h3 => ?_)
                          · have h3 : x0 = 33 := (List.cons.inj h3).1
                            walk_at "mms"
                            refine slS ?_ (by intro _ _; rfl)
                            walk_at "mms"
                            rename At _ _ _ _ _ _ => C
                            refine ⟨x0 :: X', _, some ((1 : Nat) : Int), none, _, _, _, _, _, rfl, C, by walk_at "sz", .int _ _, .none, ?_⟩
                            rw [slice_from _ (by simp)]
                            clear C
                            intro _ _ _
                            rw [show (x0 :: X').drop 1 = X' from rfl]
                            have hXl' : X'.length ≤ 160000 := by simp at hXl; lia
                            walk_at "mms"
                            rename At _ _ _ _ _ _ => C
                            refine ⟨rfl, _, _, _, C, (by repeat (first | exact M0 | with_reducible assumption | refine trM.up ?_ (by with_reducible assumption) (by kernel_rfl!))), by walk_at "mm lk", by rw [← hY, if_pos h3]; exact Up.same (by assumption)⟩
                          · have h3 : x0 ≠ 33 := fun e => h3 (by rw [e])
                            walk_at "mms"
                            refine brB (fun h4 => ?_) (fun h4 => ?_)
                            · have h4 : x0 = 94 ∨ x0 = 91 := by simpa using h4
                              have hXl' : X'.length ≤ 160000 := by simp at hXl; lia
                              walk_at "mms"
                              rename At _ _ _ _ _ _ => C
                              refine ⟨rfl, _, _, _, C.drop (List.Sublist.cons _ (List.Sublist.refl _)), (by repeat (first | exact M0 | with_reducible assumption | refine trM.up ?_ (by with_reducible assumption) (by kernel_rfl!))), by walk_at "mm lk", by rw [← hY, if_neg h3, if_pos h4]; exact Up.same (by assumption)⟩
                            · have h4 : ¬ (x0 = 94 ∨ x0 = 91) := by simpa using h4
                              walk_at "mms"
                              rename At _ _ _ _ _ _ => C
                              refine ⟨rfl, _, _, _, C.drop (List.Sublist.cons _ (List.Sublist.refl _)), (by repeat (first | exact M0 | with_reducible assumption | refine trM.up ?_ (by with_reducible assumption) (by kernel_rfl!))), by walk_at "mm lk", by rw [← hY, if_neg h3, if_neg h4]; walk_at "mm lk"⟩
                        · clear C
                          clear M0
                          rintro fl s8 ⟨rfl, m5, ts5, ti5, C, M0, n7, n8⟩
                          obtain ⟨n1, n2, n3, n4, n5, n6⟩ := id M0
                          dsimp only
                          walk_at "mms"
                          rename At _ _ _ _ _ _ => C
                          refine fS3 (Lit.e (by walk_at "lit")) (Lit.e (by walk_at "lit")) (by simp [sizeLine]) C ?_
                          clear C
                          intro s9 C9
                          walk_at "mms"
                          rename At _ _ _ _ _ _ => C
                          refine ⟨_, _, _, _, _, _, _, rfl, C, by simp only [List.length_cons, List.length_nil]; walk_at "sz", ?_⟩
                          clear C
                          intro t10 s10 C10
                          walk_at "mms"
                          rename At _ _ _ _ _ _ => C
                          refine ⟨p.length - (jj + 1), _, _, _, by walk_at "om", ⟨jj + 1, pre ++ [.set neg body], vs ++ [_], _, tn, rfl, (List.getElem?_eq_some_iff.mp hj93).1, ?_, ?_, fun b o e => kg' _ _ (kg _ _ e), rfl, by walk_at "mm lk", (by repeat (first | exact M0 | with_reducible assumption | refine trM.up ?_ (by with_reducible assumption) (by kernel_rfl!))), by simp; lia⟩, C⟩
                          · rw [hTk, hpd, toks_cons, lx, show p.drop (jj + 1) = r.drop (skipOf r + 1 + q + 1) by rw [← hr, List.drop_drop]; congr 1; rw [hr]; lia]; simp
                          · rw [List.foldl_append]
                            show PartsV ST _ (pre.foldl partStep [] ++ [some (setT neg body)])
                            exact hP.append (.cons ⟨_, by rw [hset]; rfl⟩ .nil)
                · intro k h1 h2
                  rw [← hj0] at h2
                  split at h2 <;> lia
          · -- another sign
            have hc91 : c ≠ 91 := by simpa using hb
            have lx : lexTok c r = (.one c, r) := by unfold lexTok; rw [if_neg hc42, if_neg hc63, if_neg hc91]
            walk_at "mms"
            rename At _ _ _ _ _ _ => C
            refine spEscape (C.gd Gg) R' (by walk_at "om") C.gens ?_
            intro te s3 k3 o3 g3'
            have C3 := C.grow k3 o3 (g3'.trans C.gens.symm)
            clear C
            walk_at "mms"
            rename At _ _ _ _ _ _ => C
            refine ⟨p.length - (i + 1), _, _, _, by walk_at "om", ⟨i + 1, pre ++ [.one c], vs ++ [_], _, tn, rfl, hil, ?_, ?_, kg, rfl, by walk_at "mm lk", (by repeat (first | exact M0 | with_reducible assumption | refine trM.up ?_ (by with_reducible assumption) (by kernel_rfl!))), by simp; lia⟩, C⟩
            · rw [hTk, hpd, toks_cons, lx, hr]; simp
            · rw [List.foldl_append]; exact hP.append (.cons ⟨_, rfl⟩ .nil)
    · -- the end
      obtain rfl : i = p.length := by lia
      walk_at "mms"
      refine ⟨by simp, ?_⟩
      walk_at "mms"
      rename At _ _ _ _ _ _ => C
      have e : partsOf p = pre.foldl partStep [] := by
        unfold partsOf
        rw [hTk, show toks (p.drop p.length) = [] by rw [List.drop_length, toks], List.append_nil]
      have nd := C.nd
      simp only [List.map_cons, List.map_nil, List.nodup_cons, List.mem_cons, List.not_mem_nil, or_false, not_or] at nd
      have n0 := none_of_keeps kg (C.gown _ (.tail _ (.head _))).1
      refine h res vs _ (fun b o hb e => C.keep _ _ (kg _ _ ?_)) C.os C.gens ?_ (by rw [dropA_get, if_neg (by simpa using nd.2.1)] at n0; exact n0) (C.listIn (.tail _ (.head _))) (by rw [e]; exact hP)
      · rw [dropA_get, if_neg hb]; exact e
      · obtain ⟨o, ho, ht⟩ := C.get (.tail _ (.tail _ (.head _)))
        exact ⟨o, ho, ht.keeps C.keep⟩
  · refine ⟨0, [], [], _, _, rfl, Nat.zero_le _, rfl, .nil, fun _ _ e => e, rfl, by walk_at "mm lk", ⟨by walk_at "mm lk", by walk_at "mm lk", by walk_at "mm lk", by walk_at "mm lk", by walk_at "mm lk", by walk_at "mm lk"⟩, Nat.le_refl _⟩
end
-- MObj
section
theorem on_check : checkBuiltinCall "object.__new__" ⟨[.type "object"], []⟩ = pure () := by kernel_rfl
theorem on_run : Builtin.«object.__new__» ⟨[.type "object"], []⟩ = (newObj (.type "object") .plain none >>= fun v => ret v) := by kernel_rfl
theorem ob_mro : mroOf (.type "object") = pure [.type "object"] := by kernel_rfl
theorem ob_lookN : typeLookup (.type "object") "__new__" = pure (some (.builtin "object.__new__")) := by rw [typeLookup_type, builtinLookup_eq_fast]; kernel_rfl
theorem ob_made : Bind.madeBy (.type "object") = pure (some "object.__new__") := madeBy_type ob_mro ob_lookN (by decide +kernel)
theorem ob_sub : isSubtype (.type "object") (.type "object") = pure true := by rw [isSubtype_type]; kernel_rfl
theorem ob_check : checkTypeCall "object" ⟨[], []⟩ = pure () := by kernel_rfl
theorem ob_notType : (Value.type "object" == Value.type "type") = false := by decide +kernel
theorem ob_can : ((Manifest.find? "object").bind (·.mro.findSome? fun t => (Manifest.find? t).bind fun b => if b.noNew then some true else if b.attrs.any (·.1 == "__new__") then some false else none)).getD false = false := by decide +kernel
theorem ob_init : Slot "object" "__init__" "object.__init__" :=
  .of (owner := "object") (n := "__init__") (by rw [typeLookup_type, builtinLookup_eq_fast]; kernel_rfl) (by decide +kernel) (by decide +kernel) (by decide +kernel)
    (.inl (by decide +kernel)) ob_sub
section
variable {w : World} {A : Around} {E : Value → Shared → Prop} {O : OsState} {g : Heap} {L : Addr} {m : Str → Option Value} {own own' : Own} {s : Shared}
theorem code_object_new {Q₁ : Value → Shared → Prop} (h : Q₁ (.ref s.heap.objs.size) { s with heap := s.heap.push { cls := .type "object", data := .plain } }) :
    codeAny (Md w) A (.call (.builtin "object.__new__") ⟨[.type "object"], []⟩) (wants Q₁ E) s := by
  refine codeAny_call_builtin_code (Code.quiet_builtin _ PySem.F.objNew.quiet) ?_
  refine wpAny_of_eq on_check ?_
  refine codeAny_builtin PySem.F.objNew.entry ?_
  rw [on_run]
  refine wpAny_bind (wpAny_newObj_type (wpAny_pure ?_) trivial)
  exact h
theorem callObject {Q : Value → Shared → Prop} (C : At O g L m own s) (h : ∀ a s', At O g L m own s' → Keeps s.heap s'.heap → s.heap.get? a = none → Q (.ref a) s') : wpAny (Md w) A (call (.type "object") []) Q E s := by
  have hmro := ob_mro
  have hmade := ob_made
  have hsub := ob_sub
  refine wpAny_call (codeAny_of_tree ?_)
  show wpAny _ _ (callAny (.type "object") _) _ _ _
  refine wpAny_pure ⟨Code.quiet_builtin _ (by decide +kernel), codeAny_builtin F.entry_type_call ?_⟩
  rw [Around.under_plain (weight_type_call_type "object" [] []) rfl]
  have h1 := ob_notType
  have h2 := ob_can
  have hct := ob_check
  repeat (any_goals (first | assumption | wp_step))
  refine codeAny_mono (code_object_new (E := E) (Q₁ := fun obj s₁ => obj = .ref s.heap.objs.size ∧ s₁ = { s with heap := s.heap.push { cls := .type "object", data := .plain } }) ⟨rfl, rfl⟩) fun r s₁ hr => ?_
  have C1 := (C.push { cls := .type "object", data := .plain } rfl (P := fun _ => True) trivial).drop (own' := own) (List.Sublist.cons _ (List.Sublist.refl _))
  have fresh : s.heap.get? s.heap.objs.size = none := by
    cases e : s.heap.get? s.heap.objs.size with
    | none => rfl
    | some o => exact absurd (Heap.lt_size e) (Nat.lt_irrefl _)
  have fin := h _ _ C1 (fun b o e => Heap.get?_push_of_some _ e) fresh
  cases r with
  | error e => exact hr
  | ok fl =>
    cases fl with
    | ret obj =>
      obtain ⟨rfl, rfl⟩ := hr
      have hS : (s.heap.push { cls := .type "object", data := .plain }).get? s.heap.objs.size = some { cls := .type "object", data := .plain } := Heap.get?_push_size _ rfl
      have hT : Shared.TypeIs { s with heap := s.heap.push { cls := .type "object", data := .plain } } (.ref s.heap.objs.size) "object" := ⟨_, hS, rfl⟩
      have hli := ob_init.lookup
      have hbi := ob_init.bind (.ref s.heap.objs.size)
      repeat (any_goals (first | assumption | wp_step))
      have t2 : Looks (Md w) (s.heap.push { cls := .type "object", data := .plain }) (isInstance (.ref s.heap.objs.size) (.type "object")) true := ((Looks.ld hS).andThen .now).andThen (Looks.of_pure ob_sub)
      refine codeAny_call_builtin oi_plain entry_oi (@check_slot (Md w) _ _ { s with heap := s.heap.push { cls := .type "object", data := .plain } } "object.__init__" "object" "__init__" (.ref s.heap.objs.size) [] [] _ oi_kind oi_split t2 (oi_args (.ref s.heap.objs.size)) ?_)
      refine wpAny_of_eq (oi_run _) ?_
      refine wpAny_pure ?_
      dsimp only
      rw [if_neg (by decide)]
      repeat (any_goals (first | assumption | wp_step))
    | _ => exact hr.elim
end
end
-- MTrans
section
noncomputable def splitP : List Part → List (List Nat) × List (List (List Nat))
  | [] => ([], [])
  | none :: r => ([], (splitP r).1 :: (splitP r).2)
  | some l :: r => (l :: (splitP r).1, (splitP r).2)
theorem splitP_eq : ∀ ps : List Part, ps = (splitP ps).1.map some ++ enc (splitP ps).2
  | [] => rfl
  | none :: r => by
    have := splitP_eq r
    show _ = [].map some ++ enc ((splitP r).1 :: (splitP r).2)
    rw [enc, ← this]; rfl
  | some l :: r => by
    have := splitP_eq r
    show _ = (l :: (splitP r).1).map some ++ enc (splitP r).2
    rw [List.map_cons, List.cons_append, ← this]
noncomputable def noAdj : List Part → Prop
  | none :: none :: _ => False
  | _ :: r => noAdj r
  | [] => True
theorem okG_split : ∀ ps : List Part, noAdj ps → okG (splitP ps).2 ∧ (ps.head? ≠ some none → ps ≠ [] → (splitP ps).1 ≠ [])
  | [], _ => ⟨trivial, fun _ h => absurd rfl h⟩
  | some l :: r, h => ⟨(okG_split r h).1, fun _ _ q => by cases q⟩
  | none :: [], _ => ⟨trivial, fun h => absurd rfl h⟩
  | none :: none :: r, h => h.elim
  | none :: some l :: r, h => by
    have h2 := okG_split (some l :: r) h
    refine ⟨?_, fun h => absurd rfl h⟩
    show okG ((splitP (some l :: r)).1 :: (splitP (some l :: r)).2)
    have hn := h2.2 (by simp) (by simp)
    cases e : (splitP (some l :: r)).2 with
    | nil => trivial
    | cons g gs => exact ⟨hn, e ▸ h2.1⟩
theorem noAdj_snoc_some (l : List Nat) : ∀ ps : List Part, noAdj ps → noAdj (ps ++ [some l])
  | [], _ => trivial
  | [none], _ => trivial
  | [some x], _ => trivial
  | none :: none :: r, h => h.elim
  | none :: some x :: r, h => noAdj_snoc_some l (some x :: r) h
  | some x :: y :: r, h => noAdj_snoc_some l (y :: r) h
theorem noAdj_snoc_none : ∀ ps : List Part, noAdj ps → ps.getLast? ≠ some none → noAdj (ps ++ [none])
  | [], _, _ => trivial
  | [none], _, h => absurd rfl h
  | [some x], _, _ => trivial
  | none :: none :: r, h, _ => h.elim
  | none :: some x :: r, h, h2 => noAdj_snoc_none (some x :: r) h (by simpa using h2)
  | some x :: y :: r, h, h2 => noAdj_snoc_none (y :: r) h (by simpa using h2)
theorem noAdj_step (ps : List Part) (t : Tk) (h : noAdj ps) : noAdj (partStep ps t) := by
  cases t with
  | star =>
    show noAdj (if ps.getLast? = some none then ps else ps ++ [none])
    split
    · exact h
    · rename_i e; exact noAdj_snoc_none ps h e
  | qm => exact noAdj_snoc_some _ ps h
  | one c => exact noAdj_snoc_some _ ps h
  | set n b => exact noAdj_snoc_some _ ps h
theorem noAdj_parts (p : List Nat) : noAdj (partsOf p) := by
  unfold partsOf
  suffices ∀ (l : List Tk) (ps : List Part), noAdj ps → noAdj (l.foldl partStep ps) from this _ [] trivial
  intro l
  induction l with
  | nil => intro ps h; exact h
  | cons t l ih => intro ps h; exact ih _ (noAdj_step ps t h)
noncomputable def pLen : Part → Nat
  | none => 0
  | some l => l.length
noncomputable def psLen (ps : List Part) : Nat := (ps.map pLen).sum
theorem psLen_app (a b : List Part) : psLen (a ++ b) = psLen a + psLen b := by simp [psLen]
noncomputable def tkPart : Tk → Nat
  | .star => 0
  | .qm => 1
  | .one c => (escT c).length
  | .set n b => (setT n b).length
theorem step_len (ps : List Part) (t : Tk) : (partStep ps t).length ≤ ps.length + 1 ∧ psLen (partStep ps t) ≤ psLen ps + tkPart t := by
  cases t with
  | star =>
    show (if ps.getLast? = some none then ps else ps ++ [none]).length ≤ _ ∧ psLen (if ps.getLast? = some none then ps else ps ++ [none]) ≤ _
    split
    · exact ⟨Nat.le_succ _, Nat.le_add_right _ _⟩
    · rw [psLen_app]; simp [psLen, pLen, tkPart]
  | qm => show (ps ++ [_]).length ≤ _ ∧ psLen (ps ++ [_]) ≤ _; rw [psLen_app]; simp [psLen, pLen, tkPart]
  | one c => show (ps ++ [_]).length ≤ _ ∧ psLen (ps ++ [_]) ≤ _; rw [psLen_app]; simp [psLen, pLen, tkPart]
  | set n b => show (ps ++ [_]).length ≤ _ ∧ psLen (ps ++ [_]) ≤ _; rw [psLen_app]; simp [psLen, pLen, tkPart]
theorem setT_len (n : Bool) (b : List Nat) : (setT n b).length ≤ 4 * b.length + 3 := by
  have := sd_len b
  unfold setT
  simp only [List.cons_append, List.length_cons, List.length_append, List.length_nil]
  split <;> (try split) <;> simp only [List.length_cons, List.length_nil] <;> lia
theorem lex_w (c : Nat) (r : List Nat) : tkPart (lexTok c r).1 + 4 * (lexTok c r).2.length ≤ 4 * (r.length + 1) := by
  unfold lexTok
  split
  · simp [tkPart]; lia
  split
  · simp [tkPart]; lia
  split
  · split
    · rename_i q hq
      have h1 := (List.findIdx?_eq_some_iff_getElem.mp hq).1
      have h2 := setT_len (decide (r.take 1 = [33])) ((r.drop (skipOf r)).take (q + 1))
      simp only [tkPart, List.length_drop, List.length_take] at h1 h2 ⊢
      lia
    · have : (escT 91).length = 2 := rfl
      simp only [tkPart, this]; lia
  · have : (escT c).length ≤ 2 := by unfold escT; split <;> simp
    simp only [tkPart]; lia
theorem fold_len : ∀ (n : Nat) (p : List Nat), p.length ≤ n → ∀ ps : List Part, ((toks p).foldl partStep ps).length ≤ ps.length + p.length ∧ psLen ((toks p).foldl partStep ps) ≤ psLen ps + 4 * p.length := by
  intro n
  induction n with
  | zero => intro p hp ps; cases p with
    | nil => rw [toks]; simp
    | cons c r => simp at hp
  | succ n ih =>
    intro p hp ps
    cases p with
    | nil => rw [toks]; simp
    | cons c r =>
      rw [toks_cons, List.foldl_cons]
      have h1 := lexTok_len c r
      have h2 := ih (lexTok c r).2 (by simp at hp; lia) (partStep ps (lexTok c r).1)
      have h3 := step_len ps (lexTok c r).1
      have h4 := lex_w c r
      simp only [List.length_cons]
      lia
theorem psLen_split : ∀ ps : List Part, ((splitP ps).1.flatten ++ ((splitP ps).2.map List.flatten).flatten).length = psLen ps
  | [] => rfl
  | none :: r => by
    have := psLen_split r
    simp only [splitP, psLen, List.map_cons, List.sum_cons, pLen, List.length_append, List.flatten_nil, List.nil_append, List.flatten_cons, List.length_nil, Nat.zero_add] at this ⊢
    exact this
  | some l :: r => by
    have := psLen_split r
    simp only [splitP, psLen, List.map_cons, List.sum_cons, pLen, List.length_append, List.flatten_cons] at this ⊢
    lia
noncomputable def textOf (p : List Nat) : List Nat := joined (splitP (partsOf p)).1 (splitP (partsOf p)).2
theorem spTranslate {w : World} {A : Around} {E : Value → Shared → Prop} {s : Shared} {p : List Nat} {t : Tok} {j : Nat} {Q : Value → Shared → Prop} (G : Gd w (dropA s.heap [70])) (G0 : Gd w s.heap) (R : Rm j A) (hj : j ≤ 70) (hg : s.gens = #[]) (hx : p.length ≤ 40000) (hno : 45 ∉ p)
    (hT : ∃ o, s.heap.get? 70 = some o ∧ tabP (dropA s.heap [70]) lamPos lamQ o)
    (h : ∀ t s', KeepsBut [70] s.heap s'.heap → s'.os = s.os → s'.gens = #[] → (∃ o, s'.heap.get? 70 = some o ∧ tabP s'.heap lamPos lamQ o) → Q (.str (S (textOf p)) t) s') :
    wpAny (Md w) A (call (.ref 56) [.str (S p) t]) Q E s := by
  refine callK (binds := [("pat", .str (S p) t)]) G0 R (by walk_at "om") (lk56 w) (cd56 w) (BindsTo.of_eq rfl) rfl (by kernel_rfl) rfl rfl rfl hg [(70, tabP (dropA s.heap [70]) lamPos lamQ)] (by simpa using hT) (by simp) ?_
  intro L s' C _
  change At s.os (dropA s.heap [70]) L _ _ s' at C
  have R' := R.deeper (envOf "translate" (fnScope (stAt PG 5)) L 56 (.ref 55))
  walk_at "xs"
  walk_at "mms"
  rename At _ _ _ _ _ _ => C
  have hT1 : ∀ {g0 : Heap} {m : Str → Option Value} {s1 : Shared}, At s.os g0 L m [(70, tabP g0 lamPos lamQ)] s1 → ∃ o, s1.heap.get? 70 = some o ∧ tabP (dropA s1.heap [70]) lamPos lamQ o := by
    intro g0 m s1 C
    obtain ⟨o, ho, ht⟩ := C.get (.head _)
    exact ⟨o, ho, ht.keeps (keepsDrop C.keep fun a ha => by rw [List.mem_singleton.mp ha]; exact (C.gown _ (.head _)).1)⟩
  refine spTr (G.keeps (keepsDrop C.keep fun a ha => by rw [List.mem_singleton.mp ha]; exact (C.gown _ (.head _)).1)) (C.gd G) R' (by walk_at "om") C.gens hx hno (hT1 C) ?_
  intro l vs s2 k2 o2 g2 t2 n2 l2 p2
  obtain ⟨g3, kg, C3, low⟩ := C.takeT (own0 := []) k2 t2 o2 g2 (fun _ h => absurd h List.not_mem_nil)
  have l3 : ListIn g3 l vs := by
    obtain ⟨o, ho, r⟩ := l2
    exact ⟨o, low _ _ ho n2, r⟩
  clear C
  have G3 := G.keeps kg
  change At s.os g3 L _ [(70, tabP g3 lamPos lamQ)] s2 at C3
  walk_at "mms"
  rename At _ _ _ _ _ _ => C
  have hlen := fold_len p.length p (Nat.le_refl _) []
  have hps := psLen_split (partsOf p)
  have hvl := p2.length
  rw [splitP_eq (partsOf p)] at p2
  refine spJoin (C.gd G3) R' (by walk_at "om") C.gens (l3.keeps C.keep) p2 (okG_split _ (noAdj_parts p)).1 ?_ ?_ ?_
  · rw [hvl]; unfold partsOf; simp at hlen; lia
  · rw [hps]; unfold partsOf; simp [psLen] at hlen ⊢; lia
  intro t5 s5 k5 o5 g5
  have C5 := C.grow k5 o5 (g5.trans C.gens.symm)
  walk_at "ho"
  refine h t5 s5 (fun b o hb e => C5.keep _ _ (kg _ _ ?_)) C5.os C5.gens ?_
  · rw [dropA_get, if_neg hb]; exact e
  · obtain ⟨o, ho, ht⟩ := C5.get (.head _)
    exact ⟨o, ho, ht.keeps C5.keep⟩
end
-- MInst
section
open Builtin Builtin.ObjectAttr Builtin.Getset_descriptor
noncomputable def instP (C dx : Addr) : OP := fun o => o = instObj C dx
noncomputable abbrev Keyed : List DictEntry → List Str → Prop := All2 (fun (e : DictEntry) k => ∃ t, e.key = .str k t)
noncomputable def nsP (ks : List Str) (m : Str → Option Value) : OP := fun o => ∃ es n, o = dictOf es n ∧ Keyed es ks ∧ ∀ x, ((es.find? (·.key.isStr x)).map (·.val)) = m x
theorem Keyed.noRef {es : List DictEntry} {ks : List Str} (h : Keyed es ks) : es.any (·.refKey) = false := by
  induction h with
  | nil => rfl
  | @cons e _ es _ h _ ih =>
    obtain ⟨t, h⟩ := h
    rw [List.any_cons, ih, Bool.or_false]
    simp [DictEntry.refKey, h]
theorem Keyed.anyName {es : List DictEntry} {ks : List Str} (h : Keyed es ks) (x : Str) : es.any (·.key.isStr x) = decide (x ∈ ks) := by
  induction h with
  | nil => simp
  | @cons e k es ks h _ ih =>
    obtain ⟨t, h⟩ := h
    rw [List.any_cons, ih, h]
    by_cases e1 : x = k
    · subst e1; simp [Value.isStr]
    · have : (k == x) = false := by simpa using fun q => e1 q.symm
      simp [Value.isStr, this, e1]
theorem nsP.look {ks : List Str} {m : Str → Option Value} {o : Obj} (h : nsP ks m o) (x : Str) : lookIn x o = some (m x) := by
  obtain ⟨es, n, rfl, hk, hm⟩ := h
  rw [lookIn_dict, ← hm x]
  unfold getL
  cases e : es.find? (·.key.isStr x) with
  | some y => rfl
  | none => rw [hk.noRef]; rfl
theorem putL_old {name : Str} {hsh : Int} {key v : Value} {es : List DictEntry} {ks : List Str} (h : Keyed es ks) (hn : name ∈ ks) : Keyed (putL name hsh key v es) ks := by
  induction h with
  | nil => cases hn
  | @cons e k es ks h ht ih =>
    obtain ⟨t, h⟩ := h
    unfold putL
    by_cases e1 : name = k
    · subst e1
      rw [if_pos (by rw [h]; simp [Value.isStr])]
      exact .cons ⟨t, h⟩ ht
    · have : (k == name) = false := by simpa using fun q => e1 q.symm
      rw [if_neg (by rw [h]; simp [Value.isStr, this])]
      exact .cons ⟨t, h⟩ (ih (by rcases List.mem_cons.mp hn with e | e; exact absurd e e1; exact e))
theorem putL_new {name : Str} {hsh : Int} {t : Tok} {v : Value} {es : List DictEntry} {ks : List Str} (h : Keyed es ks) (hn : name ∉ ks) : Keyed (putL name hsh (.str name t) v es) (ks ++ [name]) := by
  induction h with
  | nil => exact .cons ⟨t, rfl⟩ .nil
  | @cons e k es ks h ht ih =>
    obtain ⟨t, h⟩ := h
    unfold putL
    have e1 : name ≠ k := fun q => hn (by rw [q]; exact .head _)
    have : (k == name) = false := by simpa using fun q => e1 q.symm
    rw [if_neg (by rw [h]; simp [Value.isStr, this])]
    exact .cons ⟨_, h⟩ (ih fun q => hn (.tail _ q))
theorem putL_get {name : Str} {hsh : Int} {t : Tok} {v : Value} {es : List DictEntry} {ks : List Str} (h : Keyed es ks) (x : Str) :
    (((putL name hsh (.str name t) v es).find? (·.key.isStr x)).map (·.val)) = if x = name then some v else ((es.find? (·.key.isStr x)).map (·.val)) := by
  induction h with
  | nil =>
    unfold putL
    by_cases e : x = name
    · subst e; rw [if_pos rfl]; simp [Value.isStr]
    · have : (name == x) = false := by simpa using fun q => e q.symm
      rw [if_neg e]; simp [Value.isStr, this]
  | @cons e k es ks h ht ih =>
    obtain ⟨t', h⟩ := h
    unfold putL
    by_cases e1 : name = k
    · subst e1
      rw [if_pos (by rw [h]; simp [Value.isStr])]
      by_cases e2 : x = name
      · subst e2; rw [if_pos rfl, List.find?_cons_of_pos (by rw [h]; simp [Value.isStr])]; rfl
      · have : (name == x) = false := by simpa using fun q => e2 q.symm
        rw [if_neg e2, List.find?_cons_of_neg (by show ¬ e.key.isStr x = true; rw [h]; simp [Value.isStr, this]), List.find?_cons_of_neg (by rw [h]; simp [Value.isStr, this])]
    · have : (k == name) = false := by simpa using fun q => e1 q.symm
      rw [if_neg (by rw [h]; simp [Value.isStr, this])]
      by_cases e2 : x = k
      · subst e2
        rw [List.find?_cons_of_pos (by rw [h]; simp [Value.isStr]), List.find?_cons_of_pos (by rw [h]; simp [Value.isStr]), if_neg (fun q => e1 q.symm)]
      · have h3 : (k == x) = false := by simpa using fun q => e2 q.symm
        rw [List.find?_cons_of_neg (by rw [h]; simp [Value.isStr, h3]), List.find?_cons_of_neg (by rw [h]; simp [Value.isStr, h3])]
        exact ih
noncomputable def attrFree (K : Frag) (C : Addr) (name : Str) : Bool :=
  plainGet K C name && (hasDictIn K C && ((findIn K (.ref C) name == some none) && ((takerIn K C name == some none) && ((findIn K (.ref C) "__setattr__" == some (some (.builtin "object.__setattr__"))) && plainOver K C))))
structure AF (K : Frag) (C : Addr) (name : Str) : Prop where
  g : plainGet K C name = true
  d : hasDictIn K C = true
  f : findIn K (.ref C) name = some none
  t : takerIn K C name = some none
  s : findIn K (.ref C) "__setattr__" = some (some (.builtin "object.__setattr__"))
  p : plainOver K C = true
theorem AF.of {K : Frag} {C : Addr} {name : Str} (h : attrFree K C name = true) : AF K C name := by
  unfold attrFree at h
  simp only [Bool.and_eq_true, beq_iff_eq] at h
  obtain ⟨a, b, c, d, e, f⟩ := h
  exact ⟨a, b, c, d, e, f⟩
section
variable {w : World} {A : Around} {E : Value → Shared → Prop} {O : OsState} {g : Heap} {L : Addr} {m : Str → Option Value} {own own' : Own} {s : Shared} {x C dx : Addr} {ks : List Str} {mA : Str → Option Value} {name : Str} {v : Value}
theorem instAt (Ct : At O g L m own s) (hx : (x, instP C dx) ∈ own) (hd : (dx, nsP ks mA) ∈ own) : ∃ od, nsP ks mA od ∧ s.heap.get? dx = some od ∧ InstAt s.heap x (instObj C dx) C (some od) := by
  obtain ⟨o, ho, rfl⟩ := Ct.get hx
  obtain ⟨od, hod, hn⟩ := Ct.get hd
  exact ⟨od, hn, hod, ho, rfl, rfl, hod⟩
theorem attrGet {expr : Bool} {Q : Value → Shared → Prop} (Ct : At O g L m own s) (G : Gd w g) (hx : (x, instP C dx) ∈ own) (hd : (dx, nsP ks mA) ∈ own) (hv : mA name = some v) (F : AF (KK w) C name) (hin : handedIn v = true) (h : ∀ s', At O g L m own s' → Q v s') :
    wpAny (Md w) A (getAttr (.ref x) name expr) Q E s := by
  obtain ⟨od, hn, hod, I⟩ := instAt Ct hx hd
  exact get_value (Ct.gd G).K I (plainGet_of F.g).1 (findObj_own F.d F.f rfl (by rw [hn.look, hv])) hin (h _ (Ct.toks _))
theorem methI {f : Addr} {pl : Sem Bool} {Q : Value × List Value → Shared → Prop} (Ct : At O g L m own s) (G : Gd w g) (hx : (x, instP C dx) ∈ own) (hd : (dx, nsP ks mA) ∈ own) (hv : mA name = none) (hg : plainGet (KK w) C name = true)
    (hf : findIn (KK w) (.ref C) name = some (some (.ref f))) (ht : isFn (KK w) (.ref f) = true) (h : Q (.ref f, [.ref x]) s) : wpAny (Md w) A (getMethod (.ref x) name pl) Q E s := by
  obtain ⟨od, hn, hod, I⟩ := instAt Ct hx hd
  exact method_fn (Ct.gd G).K I (plainGet_of hg).1 (plainGet_of hg).2 hf (beq_iff_eq.mp ht) (by show (lookIn name od).map _ = _; rw [hn.look, hv]; rfl) h
theorem methF (f : Addr) {pl : Sem Bool} {Q : Value × List Value → Shared → Prop} (Ct : At O g L m own s) (G : Gd w g) (hx : (x, instP C dx) ∈ own) (hd : (dx, nsP ks mA) ∈ own) (hv : mA name = none) (hg : plainGet (KK w) C name = true)
    (hf : findIn (KK w) (.ref C) name = some (some (.ref f))) (ht : isFn (KK w) (.ref f) = true) (h : Q (.ref f, [.ref x]) s) : wpAny (Md w) A (getMethod (.ref x) name pl) Q E s := methI Ct G hx hd hv hg hf ht h
theorem attrSet0 {ks' : List Str} {Q : Unit → Shared → Prop} (Ct : At O g L m own s) (G : Gd w g) (hx : (x, instP C dx) ∈ own) (u : Upd dx (nsP ks mA) (nsP ks' (upd mA name v)) own own') (hks : (name ∈ ks ∧ ks' = ks) ∨ (name ∉ ks ∧ ks' = ks ++ [name])) (F : AF (KK w) C name) (hz : ks.length ≤ 100) (h : ∀ s', At O g L m own' s' → Q () s') :
    wpAny (Md w) A (setAttr (.ref x) name v) Q E s := by
  obtain ⟨od, hn, hod, I⟩ := instAt Ct hx u.mem
  have X := (Ct.gd G).K
  refine set_plain X I F.s ?_
  have I' : InstAt ({ s with toks := s.toks + 1 } : Shared).heap x (instObj C dx) C (some od) := I
  refine osa_open (s := { s with toks := s.toks + 1 }) X I' F.p F.t fun b => ?_
  obtain ⟨cd, hc, hd'⟩ := any_some F.d
  have hx' : s.heap.get? x = some (instObj C dx) := I.at_
  refine wpAny_bind (wpAny_pure (wpAny_bind (wpAny_bind (wpAny_loadPart hx' (wpAny_bind (looks_clsIn X hc _ _ _ _ (fun _ _ e => e) ?_))))))
  rw [hd']
  refine wpAny_pure (a := some dx) (wpAny_bind (wpAny_pure (wpAny_bind ?_)))
  obtain ⟨es, n, rfl, hk, hm⟩ := hn
  unfold nsSet
  refine wpAny_bind (wpAny_bind (wpAny_askSetting (wpAny_pure (wpAny_bind (wpAny_mkText (wpAny_bind (wpAny_loadPart hod ?_)))))))
  have c : (!es.toArray.any (·.key.isStr name) && es.toArray.any (·.refKey)) = false := by
    rw [List.any_toArray, List.any_toArray, hk.noRef, Bool.and_false]
  dsimp only
  rw [aRefKeyMayBeTheName_at, c]
  have hlen : es.length = ks.length := hk.length
  have hput : ∀ (hsh : Int) (t : Tok), nsP ks' (upd mA name v) (Obj.putName name hsh (.str name t) v (dictOf es n)) := by
    intro hsh t
    rw [putName_dict]
    refine ⟨_, _, rfl, ?_, fun y => ?_⟩
    · rcases hks with ⟨h1, rfl⟩ | ⟨h1, rfl⟩
      · exact putL_old hk h1
      · exact putL_new hk h1
    · rw [putL_get hk y, hm y]; rfl
  have hsz : ks'.length ≤ 101 := by
    rcases hks with ⟨_, rfl⟩ | ⟨_, rfl⟩
    · lia
    · simp; lia
  refine wpAny_updatePart hod ?_
  have key : ∀ (hsh : Int) (t : Tok), (s.heap.update dx (Obj.putName name hsh (.str name t) v)).get? dx = some (Obj.putName name hsh (.str name t) v (dictOf es n)) := fun hsh t =>
    Heap.get?_update_self _ hod (by obtain ⟨es2, n2, e2, _⟩ := hput hsh t; rw [e2]; rfl)
  refine wpAny_bind (wpAny_lookBehind (key _ _) ?_ ?_)
  · obtain ⟨es2, n2, e2, hk2, hm2⟩ := hput _ _
    rw [e2]
    have := hk2.length
    exact pastItsLine_dict (by rw [List.size_toArray]; unfold sizeLine; lia)
  · exact wpAny_pure (h _ (Ct.upd u (Heap.SameBut.update ..) ⟨_, key _ _, hput _ _⟩ _))
theorem attrSet {Q : Unit → Shared → Prop} (Ct : At O g L m own s) (G : Gd w g) (hx : (x, instP C dx) ∈ own) (u : Upd dx (nsP ks mA) (nsP ks (upd mA name v)) own own') (hks : ks.elem name = true) (F : AF (KK w) C name) (hz : Nat.ble ks.length 100 = true) (h : ∀ s', At O g L m own' s' → Q () s') :
    wpAny (Md w) A (setAttr (.ref x) name v) Q E s := attrSet0 Ct G hx u (.inl ⟨List.mem_of_elem_eq_true hks, rfl⟩) F (Nat.le_of_ble_eq_true hz) h
theorem attrNew {Q : Unit → Shared → Prop} (Ct : At O g L m own s) (G : Gd w g) (hx : (x, instP C dx) ∈ own) (u : Upd dx (nsP ks mA) (nsP (ks ++ [name]) (upd mA name v)) own own') (hks : ks.elem name = false) (F : AF (KK w) C name) (hz : Nat.ble ks.length 100 = true) (h : ∀ s', At O g L m own' s' → Q () s') :
    wpAny (Md w) A (setAttr (.ref x) name v) Q E s := attrSet0 Ct G hx u (.inr ⟨fun e => by rw [List.elem_eq_true_of_mem e] at hks; exact Bool.noConfusion hks, rfl⟩) F (Nat.le_of_ble_eq_true hz) h
theorem attrNewU {own2 : (Str → Option Value) → Own} {Q : Unit → Shared → Prop} (Ct : At O g L m own s) (G : Gd w g) (hx : (x, instP C dx) ∈ own) (u : ∀ m2, Upd dx (nsP ks mA) (nsP (ks ++ [name]) m2) own (own2 m2)) (hks : ks.elem name = false) (F : AF (KK w) C name) (hz : Nat.ble ks.length 100 = true) (h : ∀ m2, Up mA name v m2 → ∀ s', At O g L m (own2 m2) s' → Q () s') :
    wpAny (Md w) A (setAttr (.ref x) name v) Q E s := attrNew Ct G hx (u _) hks F hz (h _ ⟨rfl⟩)
end
noncomputable def InstB (h : Heap) (x C dx : Addr) (ks : List Str) (mA : Str → Option Value) : Prop := h.get? x = some (instObj C dx) ∧ ∃ od, h.get? dx = some od ∧ nsP ks mA od
theorem InstB.keeps {h h' : Heap} {x C dx : Addr} {ks : List Str} {mA : Str → Option Value} (b : InstB h x C dx ks mA) (k : Keeps h h') : InstB h' x C dx ks mA := ⟨k _ _ b.1, let ⟨od, e, n⟩ := b.2; ⟨od, k _ _ e, n⟩⟩
section
variable {w : World} {A : Around} {E : Value → Shared → Prop} {O : OsState} {g : Heap} {L : Addr} {m : Str → Option Value} {own own' : Own} {s : Shared} {x C dx : Addr} {ks : List Str} {mA : Str → Option Value} {name : Str} {v : Value}
theorem At.instB (Ct : At O g L m own s) (hx : (x, instP C dx) ∈ own) (hd : (dx, nsP ks mA) ∈ own) : InstB s.heap x C dx ks mA := by
  obtain ⟨od, hn, hod, I⟩ := instAt Ct hx hd
  exact ⟨I.at_, od, hod, hn⟩
theorem attrGetB {expr : Bool} {Q : Value → Shared → Prop} (Ct : At O g L m own s) (G : Gd w g) (b : InstB g x C dx ks mA) (hv : mA name = some v) (F : AF (KK w) C name) (hin : handedIn v = true) (h : ∀ s', At O g L m own s' → Q v s') :
    wpAny (Md w) A (getAttr (.ref x) name expr) Q E s := by
  obtain ⟨hx, od, hod, hn⟩ := b.keeps Ct.keep
  exact get_value (Ct.gd G).K (ox := instObj C dx) (od := some od) ⟨hx, rfl, rfl, hod⟩ (plainGet_of F.g).1 (findObj_own F.d F.f rfl (by rw [hn.look, hv])) hin (h _ (Ct.toks _))
end
theorem nd4 {a b c d : Addr} (h : [a, b, c, d].Nodup) : (¬ a = b ∧ ¬ a = c ∧ ¬ a = d) ∧ (¬ b = c ∧ ¬ b = d) ∧ ¬ c = d := by
  simpa only [List.nodup_cons, List.mem_cons, List.not_mem_nil, or_false, not_or, List.nodup_nil, not_false_eq_true, and_true] using h
theorem nd4' {a b c d : Addr} (h : (¬ a = b ∧ ¬ a = c ∧ ¬ a = d) ∧ (¬ b = c ∧ ¬ b = d) ∧ ¬ c = d) : [a, b, c, d].Nodup := by
  simpa only [List.nodup_cons, List.mem_cons, List.not_mem_nil, or_false, not_or, List.nodup_nil, not_false_eq_true, and_true] using h
theorem nd6 {a b c d e f : Addr} (h : [a, b, c, d, e, f].Nodup) : (¬ a = b ∧ ¬ a = c ∧ ¬ a = d ∧ ¬ a = e ∧ ¬ a = f) ∧ (¬ b = c ∧ ¬ b = d ∧ ¬ b = e ∧ ¬ b = f) ∧ (¬ c = d ∧ ¬ c = e ∧ ¬ c = f) ∧ (¬ d = e ∧ ¬ d = f) ∧ ¬ e = f := by
  simpa only [List.nodup_cons, List.mem_cons, List.not_mem_nil, or_false, not_or, List.nodup_nil, not_false_eq_true, and_true] using h
theorem nd2 {a b : Addr} (h : [a, b].Nodup) : ¬ a = b := by
  simpa only [List.nodup_cons, List.mem_cons, List.not_mem_nil, or_false, not_or, List.nodup_nil, not_false_eq_true, and_true] using h
theorem no4 {z a b c d : Addr} (h : z ∉ [a, b, c, d]) : ¬ z = a ∧ ¬ z = b ∧ ¬ z = c ∧ ¬ z = d := by
  simpa only [List.mem_cons, List.not_mem_nil, or_false, not_or] using h
theorem in2 {α : Type _} {P : α → Prop} {a b : α} (h1 : P a) (h2 : P b) : ∀ x ∈ [a, b], P x := by
  intro x hx; simp only [List.mem_cons, List.not_mem_nil, or_false] at hx; rcases hx with rfl | rfl <;> assumption
theorem in4 {α : Type _} {P : α → Prop} {a b c d : α} (h1 : P a) (h2 : P b) (h3 : P c) (h4 : P d) : ∀ x ∈ [a, b, c, d], P x := by
  intro x hx; simp only [List.mem_cons, List.not_mem_nil, or_false] at hx; rcases hx with rfl | rfl | rfl | rfl <;> assumption
theorem af765 (w : World) : ∀ n ∈ (["instream", "infile", "posix", "eof", "commenters", "wordchars", "whitespace", "whitespace_split", "quotes", "escape", "escapedquotes", "state", "pushback", "lineno", "debug", "token", "filestack", "source", "_punctuation_chars"] : List String), attrFree (KK w) 765 (Str.ofString n) = true := by
  intro n hn
  simp only [List.mem_cons, List.not_mem_nil, or_false] at hn
  rcases hn with rfl | rfl | rfl | rfl | rfl | rfl | rfl | rfl | rfl | rfl | rfl | rfl | rfl | rfl | rfl | rfl | rfl | rfl | rfl <;> kernel_rfl
theorem af630 (w : World) : ∀ n ∈ (["_StringIO__newline", "_StringIO__buf", "_StringIO__pos"] : List String), attrFree (KK w) 630 (Str.ofString n) = true := by
  intro n hn
  simp only [List.mem_cons, List.not_mem_nil, or_false] at hn
  rcases hn with rfl | rfl | rfl <;> kernel_rfl
end
-- MCall
section
section
variable {w : World} {A : Around} {f : Addr} {s : Shared}
theorem codeK {k : Nat} {name qual : Str} {params : Arguments} {body : List Stmt} {scope : Scope} {dV kV doc pm cdv ct oc : Value} {an od : Option Addr} {osl : Array (Option Value)} {args : List Value} {kw : List (Str × Value)} {P : List (Str × Value) → Prop} {R : Result → Shared → Prop}
    (G : Gd w s.heap) (Rm0 : Rm k A) (hk : k ≤ 100) (ho : (KK w).lookup f = some ⟨oc, od, .func (fnOf name qual params body scope dV kV doc pm an cdv ct), osl⟩) (hcd : codeIn (KK w) cdv qual = true)
    (hbind : ∀ (Q' : List (Str × Value) → Shared → Prop) (E' : Value → Shared → Prop), (∀ binds s1, P binds → Keeps s.heap s1.heap → s1.os = s.os → s1.gens = s.gens → Q' binds s1) → wpAny (Md w) A.in1 (bindArgs (fnOf name qual params body scope dV kV doc pm an cdv ct) ⟨args, kw⟩) Q' E' s)
    (hloc : ∀ binds, P binds → (binds.all fun x => decide (scope.names.lookup x.1 = some .local)) = true)
    (hcell : (scope.names.all fun x => decide (x.2 ≠ .cell)) = true) (hco : scope.isCoroutine = false) (hgen : scope.isGenerator = false) (hkind : scope.kind = .function) (hg : s.gens = #[])
    (own : Own) (hown : ∀ p ∈ own, ∃ o, s.heap.get? p.1 = some o ∧ p.2 o) (hnd : (own.map Prod.fst).Nodup)
    (h : ∀ binds, P binds → ∀ L s', At s.os (dropA s.heap (own.map Prod.fst)) L (fun x => binds.reverse.lookup x) own s' → wpAny (Md w) (A.deeper (envOf qual scope L f cdv)) (execs body (envOf qual scope L f cdv)) (fun fl s'' => R (.ok (.ret (match fl with | .ret v => v | _ => .none))) s'')
        (fun e s'' => wpAny (Md w) (A.deeper (envOf qual scope L f cdv)) (leaving (envOf qual scope L f cdv) e) (fun _ s3 => R (.error e) s3) (fun e' s3 => R (.error e') s3) s'') s') :
    codeAny (Md w) A (.call (.ref f) ⟨args, kw⟩) R s := by
  refine codeAny_call_function (Rm0.room hk) (G.K _ _ ho) rfl hco hgen rfl (codeRec_of G.K hcd) ?_
  refine hbind _ _ fun binds s1 hP k1 o1 g1 => ?_
  have G1 := G.keeps k1
  have hc' : ∀ x ∈ scope.names, x.2 ≠ .cell := fun x hx => of_decide_eq_true (List.all_eq_true.mp hcell x hx)
  refine wpAny_newFunctionEnv hc' (locs (hloc binds hP)) (fun h' hns hsb => ⟨G1.lim.fresh _ hsb, ?_⟩) hkind
  have key : ∀ b, b ≠ s1.heap.objs.size → h'.get? b = (s1.heap.push { cls := .type "frame", data := .dict #[] }).get? b := fun b hb => hsb.2 b hb
  have low : ∀ b o, s.heap.get? b = some o → h'.get? b = some o := fun b o e => by rw [key b (Nat.ne_of_lt (Heap.lt_size (k1 _ _ e)))]; exact Heap.get?_push_of_some _ (k1 _ _ e)
  have C : At s.os (dropA s.heap (own.map Prod.fst)) s1.heap.objs.size (fun x => binds.reverse.lookup x) own { s1 with heap := h', toks := s1.toks + binds.length } := by
    refine ⟨fun b o e => ?_, fun p hp => let ⟨o', e', q⟩ := hown p hp; ⟨o', low _ _ e', q⟩, hns, ?_, fun p hp => ⟨?_, ?_⟩, hnd, o1, g1.trans hg⟩
    · rw [dropA_get] at e; split at e
      · cases e
      · exact low b o e
    · rw [dropA_get]; split
      · rfl
      · cases e : s.heap.get? s1.heap.objs.size with
        | none => rfl
        | some o => exact absurd (Heap.lt_size (k1 _ _ e)) (Nat.lt_irrefl _)
    · rw [dropA_get, if_pos (List.mem_map.mpr ⟨p, hp, rfl⟩)]
    · exact Nat.ne_of_lt (Heap.lt_size (k1 _ _ (hown p hp).choose_spec.1))
  exact codeAny_func (wpAny_mono (h binds hP s1.heap.objs.size _ C) (fun fl s'' q => q) fun e s'' q => q)
theorem bindsV {fd : FuncData} {args : List Value} {kw : List (Str × Value)} {binds : List (Str × Value)} (hb : BindsTo s fd ⟨args, kw⟩ binds) :
    ∀ (Q' : List (Str × Value) → Shared → Prop) (E' : Value → Shared → Prop), (∀ bs s1, bs = binds → Keeps s.heap s1.heap → s1.os = s.os → s1.gens = s.gens → Q' bs s1) → wpAny (Md w) A.in1 (bindArgs fd ⟨args, kw⟩) Q' E' s :=
  fun Q' E' k => hb _ _ _ _ (k _ _ rfl (fun _ _ e => e) rfl rfl)
theorem codeKv {k : Nat} {name qual : Str} {params : Arguments} {body : List Stmt} {scope : Scope} {dV kV doc pm cdv ct oc : Value} {an od : Option Addr} {osl : Array (Option Value)} {args : List Value} {kw : List (Str × Value)} {binds : List (Str × Value)} {R : Result → Shared → Prop}
    (G : Gd w s.heap) (Rm0 : Rm k A) (hk : k ≤ 100) (ho : (KK w).lookup f = some ⟨oc, od, .func (fnOf name qual params body scope dV kV doc pm an cdv ct), osl⟩) (hcd : codeIn (KK w) cdv qual = true)
    (hbind : BindsTo s (fnOf name qual params body scope dV kV doc pm an cdv ct) ⟨args, kw⟩ binds)
    (hloc : (binds.all fun x => decide (scope.names.lookup x.1 = some .local)) = true)
    (hcell : (scope.names.all fun x => decide (x.2 ≠ .cell)) = true) (hco : scope.isCoroutine = false) (hgen : scope.isGenerator = false) (hkind : scope.kind = .function) (hg : s.gens = #[])
    (own : Own) (hown : ∀ p ∈ own, ∃ o, s.heap.get? p.1 = some o ∧ p.2 o) (hnd : (own.map Prod.fst).Nodup)
    (h : ∀ L s', At s.os (dropA s.heap (own.map Prod.fst)) L (fun x => binds.reverse.lookup x) own s' → wpAny (Md w) (A.deeper (envOf qual scope L f cdv)) (execs body (envOf qual scope L f cdv)) (fun fl s'' => R (.ok (.ret (match fl with | .ret v => v | _ => .none))) s'')
        (fun e s'' => wpAny (Md w) (A.deeper (envOf qual scope L f cdv)) (leaving (envOf qual scope L f cdv) e) (fun _ s3 => R (.error e) s3) (fun e' s3 => R (.error e') s3) s'') s') :
    codeAny (Md w) A (.call (.ref f) ⟨args, kw⟩) R s :=
  codeK G Rm0 hk ho hcd (bindsV hbind) (fun bs e => e ▸ hloc) hcell hco hgen hkind hg own hown hnd fun bs e L s' C => by subst e; exact h L s' C
end
end
-- MDeq
section
open Builtin
noncomputable abbrev deqO : Obj := { cls := .type "collections.deque", data := .fields #[.none, rawInt 0] }
noncomputable def deqP : OP := fun o => o = deqO
theorem dq_mro : mroOf (.type "collections.deque") = pure [.type "collections.deque", .type "object"] := by kernel_rfl
theorem dq_lookN : typeLookup (.type "collections.deque") "__new__" = pure (some (.builtin "collections.deque.__new__")) := by rw [typeLookup_type, builtinLookup_eq_fast]; kernel_rfl
theorem dq_sub : isSubtype (.type "collections.deque") (.type "collections.deque") = pure true := by rw [isSubtype_type]; kernel_rfl
theorem slot_dinit : Slot "collections.deque" "__init__" "collections.deque.__init__" :=
  .of (owner := "collections.deque") (n := "__init__") (by rw [typeLookup_type, builtinLookup_eq_fast]; kernel_rfl) (by decide +kernel) (by decide +kernel) (by decide +kernel)
    (.inl (by decide +kernel)) dq_sub
theorem slot_dlen : Slot "collections.deque" "__len__" "collections.deque.__len__" :=
  .of (owner := "collections.deque") (n := "__len__") (by rw [typeLookup_type, builtinLookup_eq_fast]; kernel_rfl) (by decide +kernel) (by decide +kernel) (by decide +kernel)
    (.inl (by decide +kernel)) dq_sub
theorem called_dq : TypeCalled "collections.deque" "collections.deque.__new__" "collections.deque.__init__" :=
  ⟨by decide +kernel, by decide +kernel, ⟨_, _, dq_mro⟩, madeBy_type dq_mro dq_lookN (by decide +kernel), by decide +kernel, dq_sub, slot_dinit⟩
theorem dq_call0 : checkTypeCall "collections.deque" ⟨[], []⟩ = pure () := by kernel_rfl
theorem dq_new0 : checkBuiltinCall "collections.deque.__new__" ⟨[.type "collections.deque"], []⟩ = pure () := by kernel_rfl
theorem dq_entN : entryFor table "collections.deque.__new__" = some Builtin.«collections.deque.__new__» := entryFor_of_tree (by kernel_rfl)
theorem dq_entI : entryFor table "collections.deque.__init__" = some Builtin.«collections.deque.__init__» := entryFor_of_tree (by kernel_rfl)
theorem dq_entL : entryFor table "collections.deque.__len__" = some Builtin.«collections.deque.__len__» := entryFor_of_tree (by kernel_rfl)
theorem dq_plainN : plainId "collections.deque.__new__" = true := by decide +kernel
theorem dq_argsI (a : Value) : argsOk "collections.deque.__init__" ⟨[a], []⟩ := by unfold argsOk; kernel_rfl
theorem dq_argsL (a : Value) : argsOk "collections.deque.__len__" ⟨[a], []⟩ := by unfold argsOk; kernel_rfl
theorem dq_runN : Builtin.«collections.deque.__new__» ⟨[.type "collections.deque"], []⟩ = (newObj (.type "collections.deque") (.fields #[.none, rawInt 0]) none >>= fun v => ret v) := by kernel_rfl
theorem dq_runI (a : Addr) : Builtin.«collections.deque.__init__» ⟨[.ref a], []⟩ = (updateField a 0 .none >>= fun _ => Deque.clear (.ref a) >>= fun _ => ret .none) := by kernel_rfl
theorem dq_runL (a : Addr) : Builtin.«collections.deque.__len__» ⟨[.ref a], []⟩ = (Deque.size (.ref a) >>= fun n => retInt n) := by kernel_rfl
theorem dq_noBool : typeLookup (.type "collections.deque") "__bool__" = pure none := by rw [typeLookup_type, builtinLookup_eq_fast]; kernel_rfl
section
variable {w : World} {A : Around} {E : Value → Shared → Prop} {O : OsState} {g : Heap} {L : Addr} {m : Str → Option Value} {own own' : Own} {s : Shared}
theorem code_dq_new {Q₁ : Value → Shared → Prop} (h : Q₁ (.ref s.heap.objs.size) { s with heap := s.heap.push deqO }) :
    codeAny (Md w) A (.call (.builtin "collections.deque.__new__") ⟨[.type "collections.deque"], []⟩) (wants Q₁ E) s := by
  refine codeAny_of_tree ?_
  show wpAny _ A.in1 (do checkBuiltinCall "collections.deque.__new__" ⟨[.type "collections.deque"], []⟩; again (.builtin "collections.deque.__new__" ⟨[.type "collections.deque"], []⟩)) _ _ s
  refine wpAny_bind (wpAny_of_eq dq_new0 (wpAny_pure ⟨plainId_quiet dq_plainN _, codeAny_builtin dq_entN ?_⟩))
  rw [dq_runN]
  refine wpAny_bind (wpAny_newObj_type (wpAny_pure ?_) (by show (2 : Nat) ≤ _; decide))
  exact h
theorem callDeque {Q : Value → Shared → Prop} (C : At O g L m own s) (h : ∀ a s', At O g L m ((a, deqP) :: own) s' → Q (.ref a) s') : wpAny (Md w) A (call (.type "collections.deque") []) Q E s := by
  refine callType_codes (args := []) called_dq dq_call0 dq_entI (code_dq_new (Q₁ := fun obj s₁ => obj = .ref s.heap.objs.size ∧ s₁ = { s with heap := s.heap.push deqO }) ⟨rfl, rfl⟩) ?_
  rintro obj s₁ ⟨rfl, rfl⟩
  have hget : (s.heap.push deqO).get? s.heap.objs.size = some deqO := Heap.get?_push_size _ rfl
  refine ⟨⟨_, hget, rfl⟩, dq_argsI _, ?_⟩
  have C1 := C.push deqO rfl (P := deqP) rfl
  rw [dq_runI]
  unfold updateField
  refine wpAny_bind (wpAny_bind (wpAny_load hget ?_))
  dsimp only
  rw [if_pos (by decide)]
  refine wpAny_update hget ?_
  have g2 : ((s.heap.push deqO).update s.heap.objs.size (Obj.mapFields (·.setIfInBounds 0 .none))).get? s.heap.objs.size = some deqO := Heap.get?_update_self _ hget rfl
  have C2 := C1.upd (P' := deqP) .head (Heap.SameBut.update (f := Obj.mapFields (·.setIfInBounds 0 .none)) ..) ⟨_, g2, rfl⟩ s.toks
  unfold Deque.clear Deque.items fieldsOf
  refine wpAny_bind (wpAny_bind (wpAny_bind (wpAny_bind (wpAny_load g2 ?_))))
  refine wpAny_pure (wpAny_pure ?_)
  rw [if_neg (by decide)]
  exact wpAny_pure (wpAny_pure ⟨rfl, h _ _ C2⟩)
theorem truDeq {a : Addr} {Q : Bool → Shared → Prop} (C : At O g L m own s) (ha : s.heap.get? a = some deqO) (h : ∀ s', At O g L m own s' → Q false s') : wpAny (Md w) A (truthy (.ref a)) Q E s := by
  have hT : s.TypeIs (.ref a) "collections.deque" := ⟨_, ha, rfl⟩
  have key : wpAny (Md w) A (runValue (.builtin "len" ⟨[.ref a], []⟩)) (fun r s' => r = .int 0 (s.toks + 1) ∧ Q false s') E s := by
    refine wpAny_runValue (codeAny_builtin PySem.entry_len ?_)
    rw [Around.under_plainId PySem.plain_len _]
    unfold Builtin.«len»
    refine wpAny_bind (m := oneArg "len" _) (wpAny_pure ?_)
    refine wpAny_bind (m := callSpecial? (.ref a) (Str.ofString "__len__")) (wpAny_callSpecial?_slot (name := Str.ofString "__len__") hT slot_dlen
      (wpAny_call_entry slot_dlen hT dq_entL ?_ (dq_argsL _)))
    rw [dq_runL]
    unfold Deque.size fieldsOf
    refine wpAny_bind (wpAny_bind (wpAny_bind (wpAny_load ha ?_)))
    refine wpAny_pure (wpAny_pure ?_)
    refine wpAny_bind (wpAny_mkInt (wpAny_pure ⟨_, rfl, ?_⟩))
    refine wpAny_bind (wpAny_holding (wpAny_pure ?_))
    refine wpAny_bind (wpAny_letGo ?_)
    show wpAny _ _ (if (((#[Value.none, rawInt 0] : Array Value).size - 2 : Nat) : Int) < 0 then _ else _) _ _ _
    rw [if_neg (by decide)]
    show wpAny _ _ (if (((#[Value.none, rawInt 0] : Array Value).size - 2 : Nat) : Int) ≥ 2 ^ 63 then _ else _) _ _ _
    rw [if_neg (by decide)]
    exact wpAny_bind (wpAny_mkInt (wpAny_pure ⟨rfl, h _ ((C.toks _).toks _)⟩))
  unfold truthy
  first
    | refine wpAny_bind (wpAny_callSpecial?_none (name := Str.ofString "__bool__") hT dq_noBool ?_)
    | refine wpAny_bind (wpAny_pure (wpAny_bind (wpAny_callSpecial?_none (name := Str.ofString "__bool__") hT dq_noBool ?_)))
  first
    | refine wpAny_bind (wpAny_specialOf (name := Str.ofString "__len__") hT slot_dlen.lookup ?_)
    | refine wpAny_bind (wpAny_pure (wpAny_bind (wpAny_specialOf (name := Str.ofString "__len__") hT slot_dlen.lookup ?_)))
  first
    | exact wpAny_bind (wpAny_mono key (fun r s' h' => by obtain ⟨rfl, hq⟩ := h'; exact wpAny_pure hq) fun _ _ e => e)
    | exact wpAny_pure (wpAny_bind (wpAny_mono key (fun r s' h' => by obtain ⟨rfl, hq⟩ := h'; exact wpAny_pure hq) fun _ _ e => e))
end
end
-- MNew
section
open Builtin
theorem Rm.underTC {k : Nat} {A : Around} (R : Rm k A) (C : Addr) (rest : List Value) (kw : List (Str × Value)) : Rm (k + 1) (A.under (.builtin "type.__call__" ⟨.ref C :: rest, kw⟩)) :=
  ⟨R.handled, by have := R.depth; show A.depth + 1 ≤ _; lia, by have := R.units; show A.units + 1 ≤ _; lia, by obtain ⟨l, e⟩ := R.frames; exact ⟨l, by show pushEnvs [] A.frames = _; rw [e]; rfl⟩⟩
section
variable {w : World} {A : Around} {E : Value → Shared → Prop} {O : OsState} {g : Heap} {L : Addr} {m : Str → Option Value} {own own' : Own} {s : Shared}
theorem At.inst (C : At O g L m own s) (c : Addr) : At O g L m ((s.heap.objs.size + 1, instP c s.heap.objs.size) :: (s.heap.objs.size, nsP [] fun _ => none) :: own) { s with heap := (s.heap.push emptyDict).push (instObj c s.heap.objs.size) } := by
  have C1 := C.push emptyDict rfl (P := nsP [] fun _ => none) ⟨[], 0, rfl, .nil, fun _ => rfl⟩
  have C2 := C1.push (instObj c s.heap.objs.size) rfl (P := instP c s.heap.objs.size) rfl
  have e : ({ s with heap := s.heap.push emptyDict } : Shared).heap.objs.size = s.heap.objs.size + 1 := Heap.size_push ..
  rw [e] at C2
  exact C2
theorem newShlex {rest : List Value} {kw : List (Str × Value)} {Q : Value → Shared → Prop} (C : At O g L m own s) (G : Gd w g)
    (h : ∀ x dx s1, At O g L m ((x, instP 765 dx) :: (dx, nsP [] fun _ => none) :: own) s1 → codeAny (Md w) (A.under (.builtin "type.__call__" ⟨.ref 765 :: rest, kw⟩)) (.call (.ref 689) ⟨.ref x :: rest, kw⟩)
      (fun r s' => match r with | .ok (.ret v) => v = .none ∧ Q (.ref x) s' | .ok _ => False | .error e => E e s') s1) : wpAny (Md w) A (call (.ref 765) rest kw) Q E s := by
  have X := (C.gd G).K
  have h1 := h _ _ _ (C.inst 765)
  obtain ⟨hh, gg, d, t, os⟩ := s
  refine wpAny_call (make_core (makes_of X (by kernel_rfl)) (looks_findIn X (show findIn (KK w) (.ref 765) "__init__" = some (some (.ref 689)) by kernel_rfl)) (fun self => bind_fn X self (by kernel_rfl)) (.inl rfl) (codeAny_mono h1 fun r s' z => ?_))
  rcases r with e | (v | _ | _ | _) <;> first | exact z | exact z.elim
theorem made630 {h : Heap} (X : (KK w).In h) : Looks (Md w) h (Bind.madeBy (.ref 630)) none := Looks.of_peek X (by kernel_rfl)
theorem base630 {h : Heap} (X : (KK w).In h) : Looks (Md w) h (Bind.madeHere "object.__new__" (.ref 630)) () := Looks.of_peek X (by kernel_rfl)
theorem typ630 {h : Heap} (X : (KK w).In h) : Looks (Md w) h (isInstance (.ref 630) (.type "type")) true := Looks.of_peek X (by kernel_rfl)
theorem call630 {h : Heap} (X : (KK w).In h) : Looks (Md w) h (specialOf (.ref 630) "__call__") (some (.builtin "type.__call__")) := Looks.of_peek X (by kernel_rfl)
theorem on_args (C : Addr) : Bind.checkArgs "object.__new__" ⟨.hand, "object.__new__", "__new__", .cls, []⟩ ⟨[.ref C], []⟩ = pure () := by kernel_rfl
theorem newObj630 {Q : Value → Shared → Prop} (X : (KK w).In s.heap) (h : Q (.ref (s.heap.objs.size + 1)) { s with heap := (s.heap.push emptyDict).push (instObj 630 s.heap.objs.size) }) :
    wpAny (Md w) A (call (.builtin "object.__new__") [.ref 630]) Q E s := by
  refine wpAny_call ?_
  have F := PySem.F.objNew
  refine codeAny_call_builtin_code (Code.quiet_builtin _ F.quiet) ?_
  have c1 : Looks (Md w) s.heap (checkBuiltinCall "object.__new__" ⟨[.ref 630], []⟩) () := Looks.of_peek X (by kernel_rfl)
  refine c1.here ?_
  refine codeAny_builtin F.entry ?_
  unfold Builtin.«object.__new__»
  have t1 : Looks (Md w) s.heap (isType (.ref 630)) true := Looks.of_peek X (by kernel_rfl)
  have b1 := base630 X
  have hC := X _ _ (show (KK w).lookup 630 = some (k630 PG w.params) by kernel_rfl)
  obtain ⟨cd, hc, e⟩ := any_some (show (clsIn (KK w) 630).any (fun cd => !cd.abstract && !cd.hasDel) = true by kernel_rfl)
  simp only [Bool.and_eq_true, Bool.not_eq_true'] at e
  obtain ⟨e1, e2⟩ := e
  have L2 : Looks (Md w) s.heap (classData 630) cd := looks_clsIn X hc
  obtain ⟨hh, gg, d, t, os⟩ := s
  refine wpAny_bind (t1.here ?_)
  dsimp only
  rw [if_neg (by decide)]
  refine wpAny_bind (b1.here ?_)
  rw [if_neg (by decide)]
  refine wpAny_bind (L2.here ?_)
  rw [e1, if_neg (by decide)]
  rw [if_pos (show typeHasDict (.ref 630) = true from rfl)]
  show wpAny _ _ ((alloc emptyDict >>= fun x => pure (some x)) >>= _) _ _ _
  refine wpAny_bind (wpAny_bind (wpAny_alloc (wpAny_pure (wpAny_bind ?_))))
  show wpAny _ _ (newObjAsIs _ _ _) _ _ _
  unfold newObjAsIs
  have Ld : Looks (Md w) hh (classHasDel 630) false := Looks.of_peek X (by kernel_rfl)
  refine wpAny_bind (wpAny_alloc (wpAny_bind ((Ld.keeps fun b o e => Heap.get?_push_of_some _ (Heap.get?_push_of_some _ e)).here ?_)))
  refine wpAny_pure (wpAny_pure ?_)
  show Q _ _
  rw [Heap.size_push]
  exact h
end
end
-- MNew2
section
open Builtin
theorem bind123 (v pm : Value) : bindArgs (fnOf "__new__" "IOBase.__new__" (fnParams (clsAt PG 16 1)) (fnBody (clsAt PG 16 1)) (fnScope (clsAt PG 16 1)) .none .none .none pm none (.ref 122) .none) ⟨[.ref 630, v], []⟩ =
    (newTuple [v] >>= fun T => alloc { cls := .type "dict", data := .dict #[] } >>= fun d => pure ([("cls", .ref 630), ("args", T), ("kwargs", .ref d)] : List (Str × Value))) := by rfl
section
variable {w : World} {A : Around} {E : Value → Shared → Prop} {O : OsState} {g : Heap} {L : Addr} {m : Str → Option Value} {own own' : Own} {s : Shared}
theorem isNotRef {a b : Addr} {Q : Value → Shared → Prop} (x : Looks (Md w) s.heap (isSame (.ref a) (.ref b)) false) (h : Q (.bool true) s) : wpAny (Md w) A (compareOp .IsNot (.ref a) (.ref b)) Q E s := by
  show wpAny (Md w) A (do return .bool (!(← isSame (.ref a) (.ref b)))) Q E s
  exact wpAny_bind (x.here (wpAny_pure h))
theorem methodT {T : String} {name : Str} {v : Value} {pl : Sem Bool} {Q : Value × List Value → Shared → Prop} (X : (KK w).In s.heap) (ht : typeOf (.type T) = pure (.type "type")) (hs : Manifest.isStub T = false)
    (e : findCls (KK w) (.type T) (.type "type") name = some (.val v)) (hh : handedIn v = true) (h : ∀ k, Q (v, []) { s with toks := k }) : wpAny (Md w) A (getMethod (.type T) name pl) Q E s := by
  have hstub : opaqueClassAbove (.type T) = pure none := by unfold opaqueClassAbove; dsimp only; rw [hs]; rfl
  have L0 : Looks (Md w) s.heap (typeOf (.type T)) (.type "type") := Looks.of_pure ht
  have hg : findIn (KK w) (.type "type") "__getattribute__" = some (some (.builtin "type.__getattribute__")) := by kernel_rfl
  unfold getMethod specialOf
  refine wpAny_bind (wpAny_bind (L0.here ((looks_findIn X hg).here ?_)))
  dsimp only
  rw [if_pos canon_tga]
  refine wpAny_bind (wpAny_mono (Q := fun v => Q (v, [])) (E := E) ?_ (fun _ _ z => wpAny_pure z) fun _ _ z => z)
  have LO : Looks (Md w) s.heap (opaqueClassAbove (.type T)) none := Looks.of_pure hstub
  refine cls_open X LO L0 hg (looks_hook X (r := none) (by rfl)) (by show subIn (KK w) _ _ = _; kernel_rfl) e
    (wpAny_pure (by show wpAny _ _ (handedOut v) _ _ _; rw [handedOut_of hh]; exact wpAny_pure (h _)))
theorem mon1 : typeOf (.type "object") = pure (.type "type") := by kernel_rfl
theorem mon2 : Manifest.isStub "object" = false := by kernel_rfl
theorem mon3 (w : World) : findCls (KK w) (.type "object") (.type "type") "__new__" = some (.val (.builtin "object.__new__")) := by kernel_rfl
theorem mon4 : handedIn (.builtin "object.__new__") = true := by decide +kernel
theorem methObjNew {pl : Sem Bool} {Q : Value × List Value → Shared → Prop} (X : (KK w).In s.heap) (h : ∀ k, Q (.builtin "object.__new__", []) { s with toks := k }) : wpAny (Md w) A (getMethod (.type "object") "__new__" pl) Q E s :=
  methodT (T := "object") (name := "__new__") (v := .builtin "object.__new__") X mon1 mon2 (mon3 w) mon4 h
theorem spNew123 {v : Value} {j : Nat} {R : Result → Shared → Prop} (G : Gd w s.heap) (R0 : Rm j A) (hj : j ≤ 90) (hg : s.gens = #[])
    (h : ∀ s' : Shared, Keeps s.heap s'.heap → s'.os = s.os → s'.gens = #[] → R (.ok (.ret (.ref (s'.heap.objs.size + 1)))) { s' with heap := (s'.heap.push emptyDict).push (instObj 630 s'.heap.objs.size) }) :
    codeAny (Md w) A (.call (.ref 123) ⟨[.ref 630, v], []⟩) R s := by
  refine codeK (P := fun bs => ∃ T D, bs = ([("cls", .ref 630), ("args", T), ("kwargs", D)] : List (Str × Value))) G R0 (by walk_at "om") (lk123 w) (cd123 w) ?_ (by rintro _ ⟨T, D, rfl⟩; rfl) (by kernel_rfl) rfl rfl rfl hg [] (by simp) .nil ?_
  · intro Q' E' k
    rw [bind123]
    refine wpAny_bind (wpAny_newObj_type ?_ (by show (1 : Nat) ≤ sizeLine; unfold sizeLine; lia))
    refine wpAny_bind (wpAny_alloc (wpAny_pure (k _ _ ⟨_, _, rfl⟩ (fun b o e => Heap.get?_push_of_some _ (Heap.get?_push_of_some _ e)) rfl rfl)))
  · rintro _ ⟨T, D, rfl⟩ L s' C
    change At s.os s.heap L _ [] s' at C
    have R' := R0.deeper (envOf "IOBase.__new__" (fnScope (clsAt PG 16 1)) L 123 (.ref 122))
    walk_at "xs"
    walk_at "mms"
    have n2 : Looks (Md w) s.heap (isSame (.ref 630) (.ref 383)) false := Looks.of_peek G.K (by kernel_rfl)
    rename At _ _ _ _ _ _ => C
    refine isNotRef (n2.keeps C.keep) ?_
    walk_at "mms"
    refine wpAny_isNot_ref_self ?_
    walk_at "mms"
    rename At _ _ _ _ _ _ => C
    refine methObjNew (C.gd G).K fun k => ?_
    have C := C.toks k
    dsimp only
    walk_at "mms"
    refine newObj630 (C.gd G).K ?_
    walk_at "ho"
    exact h _ C.keep C.os C.gens
end
end
-- MNew3
section
open Builtin
theorem fc630 (w : World) : findCls (KK w) (.ref 630) (.type "type") "__new__" = some (.get (.builtin "staticmethod.__get__") (.ref 127) .none (.ref 630)) := by kernel_rfl
theorem rc127 (w : World) : recIn (KK w) 127 "staticmethod" = some [.ref 123] := by kernel_rfl
theorem rd630 (w : World) : readsIn (KK w) 630 (.type "type") = true := by kernel_rfl
section
variable {w : World} {A : Around} {E : Value → Shared → Prop} {O : OsState} {g : Heap} {L : Addr} {m : Str → Option Value} {own own' : Own} {s : Shared}
theorem getNew630 {expr : Bool} {Q : Value → Shared → Prop} (X : (KK w).In s.heap) (h : ∀ k, Q (.ref 123) { s with toks := k }) : wpAny (Md w) A (getAttr (.ref 630) "__new__" expr) Q E s :=
  cls_bind X (rd630 w) (fc630 w) (wpAny_call (sm_get (s := { s with toks := s.toks + 1 }) X (rc127 w) (handed_on rfl (h _))))
theorem newStringIO {v : Value} {j : Nat} {Q : Value → Shared → Prop} (C : At O g L m own s) (G : Gd w g) (R0 : Rm j A) (hj : j ≤ 80)
    (h : ∀ x dx s1, At O g L m ((x, instP 630 dx) :: (dx, nsP [] fun _ => none) :: own) s1 → codeAny (Md w) (A.under (.builtin "type.__call__" ⟨.ref 630 :: [v], []⟩)) (.call (.ref 400) ⟨.ref x :: [v], []⟩)
      (fun r s' => match r with | .ok (.ret v) => v = .none ∧ Q (.ref x) s' | .ok _ => False | .error e => E e s') s1) : wpAny (Md w) A (call (.ref 630) [v]) Q E s := by
  have X := (C.gd G).K
  have hC := X _ _ (show (KK w).lookup 630 = some (k630 PG w.params) by kernel_rfl)
  have call := call630 X
  have typ := typ630 X
  have made := made630 X
  have mro : Looks (Md w) s.heap (mroOf (.ref 630)) [.ref 630, .ref 153, .ref 126, .type "object"] := Looks.of_peek X (by kernel_rfl)
  refine wpAny_call ?_
  refine codeAny_of_tree ?_
  show wpAny _ _ (callAny (.ref 630) _) _ _ _
  refine nd_load hC ?_
  show wpAny _ _ (callAny.viaDunder (.ref 630) _) _ _ _
  unfold callAny.viaDunder
  refine wpAny_bind (call.here ?_)
  dsimp only
  rw [tc_bind]
  refine wpAny_bind (wpAny_pure (wpAny_bind (wpAny_pure ?_)))
  refine wpAny_pure (a := Fin.again (.call (.builtin "type.__call__") ⟨.ref 630 :: [v], []⟩)) (And.intro rfl ?_)
  refine codeAny_call_builtin_at (Code.quiet_builtin _ (by decide +kernel)) entry_typeCall (check_slot tc_kind tc_split typ (tc_args _ _ _) ?_)
  unfold Builtin.«type.__call__»
  have R1 := R0.underTC 630 [v] []
  dsimp only
  rw [if_neg (by decide)]
  refine wpAny_bind (mro.here ?_)
  rw [if_neg (by decide)]
  refine wpAny_bind (made.here ?_)
  dsimp only
  refine wpAny_bind (getNew630 X fun k => ?_)
  have C1 := C.toks k
  refine wpAny_bind (wpAny_holding (wpAny_call (spNew123 (C1.gd G) R1 (by lia) C1.gens ?_)))
  intro s2 k2 o2 g2
  have C2 := (C1.grow k2 o2 (g2.trans C1.gens.symm)).inst 630
  have X2 := (C2.gd G).K
  obtain ⟨od, hn, hod, I⟩ := instAt C2 (.head _) (.tail _ (.head _))
  have sub : Looks (Md w) ((s2.heap.push emptyDict).push (instObj 630 s2.heap.objs.size)) (isSubtype (.ref 630) (.ref 630)) true := Looks.of_peek X2 (by kernel_rfl)
  have ii : Looks (Md w) ((s2.heap.push emptyDict).push (instObj 630 s2.heap.objs.size)) (isInstance (.ref (s2.heap.objs.size + 1)) (.ref 630)) true := I.type.andThen sub
  dsimp only
  refine wpAny_bind (ii.here ?_)
  rw [if_neg (by decide)]
  refine wpAny_bind (wpAny_holding (special_fn (f := 400) X2 I (by kernel_rfl) (by kernel_rfl) (wpAny_call ?_)))
  refine codeAny_mono (h _ _ _ C2) fun r s3 z => ?_
  rcases r with e | (v | _ | _ | _)
  · exact z
  · exact z.elim
  · exact z.elim
  · exact z.elim
  · obtain ⟨rfl, z⟩ := z
    dsimp only
    rw [if_neg (by decide)]
    exact wpAny_pure z
end
end
-- MSl
section
section
variable {w : World} {A : Around} {E : Value → Shared → Prop} {s : Shared} {env : Env} {pos : Pos}
theorem SubSlice {value : Expr} {lower upper : Option Expr} {p : Pos} {Q : Value → Shared → Prop}
    (h : wpAny (Md w) A (eval value env) (fun o s₁ => wpAny (Md w) A (eval (.Slice lower upper none p) env) (fun i s₂ => ItemOn (Md w) A E o i Q s₂) E s₁) E s) :
    wpAny (Md w) A (eval (.Subscript value (.Slice lower upper none p) pos) env) Q E s := by
  rw [eval_Subscript]
  refine wpAny_bind (wpAny_mono h (fun o s₁ h₁ => wpAny_bind (wpAny_holding (wpAny_mono h₁ (fun i s₂ h₂ => wpAny_bind (wpAny_standAt ?_)) fun _ _ x => x)))
    fun _ _ x => x)
  obtain ⟨T, id, hl, hT, hg⟩ := h₂
  first
    | (refine wpAny_bind ?_; rw [getitemInPython_of_ne hT.not_modules]; refine wpAny_bind (wpAny_specialOf hT hl ?_))
    | refine wpAny_bind (wpAny_specialOf hT hl ?_)
  have fin : wpAny (Md w) A (operate [i, o] (getItem o i)) (fun r s₃ => wpAny (Md w) A (letTemporaryGo value o r >>= fun _ => pure r) Q E s₃) E s₂ :=
    wpAny_operating (wpAny_mono hg (fun r s₃ h₃ => wpAny_bind (wpAny_letTemporaryGo (wpAny_pure h₃))) fun _ _ x => x)
  first
    | exact wpAny_pure (wpAny_bind fin)
    | exact wpAny_bind (wpAny_pure (wpAny_bind fin))
    | exact wpAny_bind fin
theorem slT {value : Expr} {lower upper : Option Expr} {p : Pos} {Q : Value → Shared → Prop}
    (h : wpAny (Md w) A (eval value env) (fun o s₁ => wpAny (Md w) A (evalPart lower env) (fun vl s₂ => wpAny (Md w) A (evalPart upper env) (fun vu s₃ =>
      ∃ l t lo hi O g L m own, o = .str (S l) t ∧ At O g L m own s₃ ∧ l.length ≤ sizeLine ∧ IsPart vl lo ∧ IsPart vu hi ∧
        ∀ t s', At O g L m own s' → Q (.str (Txt.slice (S l) lo hi) t) s') E s₂) E s₁) E s) :
    wpAny (Md w) A (eval (.Subscript value (.Slice lower upper none p) pos) env) Q E s := by
  refine SubSlice (wpAny_mono h (fun o s₁ h₁ => wpAny_Slice (wpAny_mono h₁ (fun vl s₂ h₂ => wpAny_mono h₂ (fun vu s₃ h₃ => wpAny_evalPart_none ?_) fun _ _ e => e) fun _ _ e => e)) fun _ _ e => e)
  obtain ⟨l, t, lo, hi, O, g, L, m, own, rfl, C, hsz, p1, p2, k⟩ := h₃
  have hk : KeptH (fun h' => At O g L m own { s₃ with heap := h' }) := fun h' ob C' => C'.grow (fun b o e => Heap.get?_push_of_some _ e) rfl rfl
  have fin : ∀ t' h' kk, At O g L m own { s₃ with heap := h' } → Q (.str (Txt.slice (S l) lo hi) t') { s₃ with heap := h', toks := kk } := fun t' h' kk C' => k _ _ (C'.toks kk)
  have hsz' : (S l).length ≤ sizeLine := by rw [S_len]; exact hsz
  cases p1 <;> cases p2
  · exact SBH.sliceItem_nn hk C (fun h' t' kk C' => fin t' h' kk C') hsz'
  · exact SBH.sliceItem_ns hk C (fun h' t' kk C' => fin t' h' kk C') hsz'
  · exact SBH.sliceItem_sn hk C (fun h' t' kk C' => fin t' h' kk C') hsz'
  · exact SBH.sliceItem_ss hk C (fun h' t' kk C' => fin t' h' kk C') hsz'
end
end
-- MSio
section
theorem spSioTr {w : World} {A : Around} {E : Value → Shared → Prop} {s : Shared} {x dx : Addr} {j : Nat} {v : Value} {ks : List Str} {mA : Str → Option Value} {nt : Tok} {Q : Value → Shared → Prop} (G : Gd w s.heap) (R : Rm j A) (hj : j ≤ 90) (hg : s.gens = #[])
    (b : InstB s.heap x 630 dx ks mA) (h1 : mA "_StringIO__newline" = some (.str (S [10]) nt))
    (h : ∀ s', Keeps s.heap s'.heap → s'.os = s.os → s'.gens = #[] → Q v s') : wpAny (Md w) A (call (.ref 407) [.ref x, v]) Q E s := by
  refine callK0 (binds := [("self", .ref x), ("s", v)]) G R (by walk_at "om") (lk407 w) (cd407 w) (BindsTo.of_eq rfl) rfl (by kernel_rfl) rfl rfl rfl hg ?_
  intro L s' C _
  have R' := R.deeper (envOf "StringIO.__translated" (fnScope (clsAt PG 20 2)) L 407 (.ref 406))
  walk_at "xs"
  walk_at "mms"
  refine br (fun h => absurd h (by decide)) (fun _ => ?_)
  walk_at "mms"
  refine br (fun h => absurd h (by decide)) (fun _ => ?_)
  walk_at "mms"
  rename At _ _ _ _ _ _ => C
  exact h _ C.keep C.os C.gens
theorem spSioChk {w : World} {A : Around} {E : Value → Shared → Prop} {s : Shared} {x dx : Addr} {j : Nat} {ks : List Str} {mA : Str → Option Value} {bt : Str} {nt : Tok} {Q : Value → Shared → Prop} (G : Gd w s.heap) (R : Rm j A) (hj : j ≤ 90) (hg : s.gens = #[])
    (b : InstB s.heap x 630 dx ks mA) (h1 : mA "_StringIO__buf" = some (.str bt nt))
    (h : ∀ s', Keeps s.heap s'.heap → s'.os = s.os → s'.gens = #[] → Q .none s') : wpAny (Md w) A (call (.ref 414) [.ref x]) Q E s := by
  refine callK0 (binds := [("self", .ref x)]) G R (by walk_at "om") (lk414 w) (cd414 w) (BindsTo.of_eq rfl) rfl (by kernel_rfl) rfl rfl rfl hg ?_
  intro L s' C _
  have R' := R.deeper (envOf "StringIO.__check" (fnScope (clsAt PG 20 3)) L 414 (.ref 413))
  walk_at "xs"
  walk_at "mms"
  rename At _ _ _ _ _ _ => C
  exact h _ C.keep C.os C.gens
theorem spIndex {w : World} {A : Around} {E : Value → Shared → Prop} {s : Shared} {t : Tok} {wd : Value} {j : Nat} {Q : Value → Shared → Prop} (G : Gd w s.heap) (R : Rm j A) (hj : j ≤ 90) (hg : s.gens = #[])
    (h : ∀ t s', Keeps s.heap s'.heap → s'.os = s.os → s'.gens = #[] → Q (.int 1 t) s') : wpAny (Md w) A (call (.ref 96) [.int 1 t, wd]) Q E s := by
  refine callK0 (binds := [("n", .int 1 t), ("what", wd)]) G R (by walk_at "om") (lk96 w) (cd96 w) (BindsTo.of_eq rfl) rfl (by kernel_rfl) rfl rfl rfl hg ?_
  intro L s' C _
  have R' := R.deeper (envOf "_index" (fnScope (stAt PG 14)) L 96 (.ref 95))
  walk_at "xs"
  walk_at "mms"
  refine br (fun h => absurd h (by decide)) (fun _ => ?_)
  walk_at "mms"
  refine br (fun h => absurd h (by decide)) (fun _ => ?_)
  walk_at "mms"
  rename At _ _ _ _ _ _ => C
  exact h _ _ C.keep C.os C.gens
noncomputable def sioKs : List Str := ["_StringIO__newline", "_StringIO__buf", "_StringIO__pos"]
noncomputable def sioF (l : List Nat) (k : Nat) (mA : Str → Option Value) : Prop :=
  (∃ t, mA "_StringIO__newline" = some (.str (S [10]) t)) ∧ (∃ t, mA "_StringIO__buf" = some (.str (S l) t)) ∧ (∃ t, mA "_StringIO__pos" = some (.int (k : Nat) t)) ∧ mA "read" = none ∧ mA "_StringIO__check" = none ∧ mA "_StringIO__translated" = none
noncomputable def sioP (l : List Nat) (k : Nat) : OP := fun o => ∃ mA, nsP sioKs mA o ∧ sioF l k mA
theorem slice_drop1 (c : Nat) : Txt.slice (S [c, 32]) none (some (-1)) = S [c] := by
  have := StrLaws.sliceText_to_neg (x := S [c, 32]) (j := -1) (by decide) (by rw [S_len]; show -((2 : Nat) : Int) ≤ -1; decide)
  exact this
inductive SioP (O : OsState) (h : Heap) (L x dx : Addr) (mA : Str → Option Value) (k : Nat) (fl : Flow) (s' : Shared) : Prop
  | mk (hf : fl = .next) (m' : Str → Option Value) (ts tk : Tok) (C : At O h L m' [(x, instP 630 dx), (dx, nsP sioKs mA)] s') (m1 : m' "self" = some (.ref x)) (m2 : m' "start" = some (.int (k : Nat) tk)) (m3 : m' "stop" = some (.int ((k + 1 : Nat) : Int) ts))
theorem spRead {w : World} {A : Around} {E : Value → Shared → Prop} {s : Shared} {x dx : Addr} {l : List Nat} {k : Nat} {t : Tok} {j : Nat} {Q : Value → Shared → Prop} (G : Gd w (dropA s.heap [x, dx])) (G0 : Gd w s.heap) (R : Rm j A) (hj : j ≤ 80) (hg : s.gens = #[])
    (hx : ∃ o, s.heap.get? x = some o ∧ instP 630 dx o) (hd : ∃ o, s.heap.get? dx = some o ∧ sioP l k o) (hne : x ≠ dx) (hk : k ≤ l.length) (hl : l.length ≤ 500000)
    (h : ∀ t s', KeepsBut [dx] s.heap s'.heap → s'.os = s.os → s'.gens = #[] → (∃ o, s'.heap.get? dx = some o ∧ sioP l (min (k + 1) l.length) o) → Q (.str (S ((l.drop k).take 1)) t) s') :
    wpAny (Md w) A (call (.ref 576) [.ref x, .int 1 t]) Q E s := by
  obtain ⟨od, hod, mA, hmA, ⟨tn, f1⟩, ⟨tb, f2⟩, ⟨tp, f3⟩, f4, f5, f6⟩ := hd
  have h569 := G0.K _ _ (show (KK w).lookup 569 = some (k569 PG w.params) by kernel_rfl)
  refine wpAny_call (codeKv (binds := [("self", .ref x), ("size", .int 1 t)]) G0 R (by walk_at "om") (lk576 w) (cd576 w) (BindsTo.of_defaults rfl h569 rfl rfl rfl) rfl (by kernel_rfl) rfl rfl rfl hg [(x, instP 630 dx), (dx, nsP sioKs mA)] (by simp; exact ⟨hx, od, hod, hmA⟩) (by simpa using hne) ?_)
  intro L s' C
  change At s.os (dropA s.heap [x, dx]) L _ [(x, instP 630 dx), (dx, nsP sioKs mA)] s' at C
  have R' := R.deeper (envOf "StringIO.read" (fnScope (clsAt PG 20 25)) L 576 (.ref 575))
  have fin : ∀ (mB : Str → Option Value) (m : Str → Option Value) (t : Tok) (s2 : Shared), At s.os (dropA s.heap [x, dx]) L m [(x, instP 630 dx), (dx, nsP sioKs mB)] s2 → sioF l (min (k + 1) l.length) mB → Q (.str (S ((l.drop k).take 1)) t) s2 := by
    intro mB m t s2 C2 hF
    obtain ⟨ox, hox, rfl⟩ := hx
    refine h t s2 (fun b o hb e => ?_) C2.os C2.gens ?_
    · by_cases ex : b = x
      · subst ex
        obtain ⟨o2, h2, rfl⟩ := C2.get (.head _)
        rw [hox] at e; cases e; exact h2
      · refine C2.keep b o ?_
        rw [dropA_get, if_neg (by simp only [List.mem_cons, List.not_mem_nil, or_false, not_or]; exact ⟨ex, fun q => hb (by rw [q]; exact .head _)⟩)]
        exact e
    · obtain ⟨o2, h2, h3⟩ := C2.get (.tail _ (.head _))
      exact ⟨o2, h2, mB, h3, hF⟩
  walk_at "xs"
  walk_at "mms"
  rename At _ _ _ _ _ _ => C
  refine spIndex (C.gd G) R' (by walk_at "om") C.gens ?_
  intro t1 s1 k1 o1 g1
  have C1 := C.grow k1 o1 (g1.trans C.gens.symm)
  clear C
  walk_at "mms"
  rename At _ _ _ _ _ _ => C
  refine spSioChk (C.gd G) R' (by walk_at "om") C.gens (C.instB (.head _) (.tail _ (.head _))) f2 ?_
  intro s2 k2 o2 g2
  have C2 := C.grow k2 o2 (g2.trans C.gens.symm)
  clear C
  walk_at "mms"
  refine br (fun h1 => ?_) (fun h1 => ?_)
  · walk_at "mms"
    rename At _ _ _ _ _ _ => C
    have e : (l.drop k).take 1 = [] := by rw [List.drop_eq_nil_of_le (by walk_at "om")]; rfl
    rw [e] at fin
    exact fin _ _ _ _ C ⟨⟨_, f1⟩, ⟨_, f2⟩, ⟨_, by rw [show min (k + 1) l.length = k by lia]; exact f3⟩, f4, f5, f6⟩
  · obtain ⟨c, hc⟩ : ∃ c, l[k]? = some c := ⟨_, List.getElem?_eq_getElem (by walk_at "om")⟩
    have hck : k < l.length := by lia
    walk_at "mm"
    walk_at "ho"
    refine wpAny_execs_cons ?_
    rename At _ _ _ _ _ _ => C
    refine cutP (SioP s.os (dropA s.heap [x, dx]) L x dx mA k) ?_ ?_
    · walk_at "hx"
      walk_at "mms"
      refine br (fun _ => ?_) (fun h => absurd (by decide) h)
      walk_at "mms"
      refine br (fun h2 => ?_) (fun h2 => ?_)
      · walk_at "mms"
        rename At _ _ _ _ _ _ => C
        exact ⟨rfl, _, _, _, C, by walk_at "mm lk", by walk_at "mm lk", by walk_at "mm lk"⟩
      · walk_at "mms"
        rename At _ _ _ _ _ _ => C
        exact ⟨rfl, _, _, _, C, by walk_at "mm lk", by walk_at "mm lk", by rw [show k + 1 = l.length by lia]; walk_at "mm lk"⟩
    · clear C
      rintro fl s3 ⟨rfl, m', ts, tk, C, n1, n2, n3⟩
      dsimp only
      have hcl : ([c] : List Nat).length ≤ 1 := Nat.le_refl _
      walk_at "mms"
      refine slT ?_
      walk_at "mms"
      refine slT ?_
      walk_at "mms"
      rename At _ _ _ _ _ _ => C
      refine ⟨l, _, some ((k : Nat) : Int), some ((k + 1 : Nat) : Int), _, _, _, _, _, rfl, C, by walk_at "sz", .int _ _, .int _ _, ?_⟩
      have e : (l.drop k).take 1 = [c] := by
        rw [List.drop_eq_getElem?_toList_append, hc]; rfl
      rw [slice_nat l (by walk_at "om") (by walk_at "om"), show k + 1 - k = 1 by walk_at "om", e]
      clear C
      intro _ _ _
      walk_at "mms"
      rename At _ _ _ _ _ _ => C
      refine ⟨[c, 32], _, none, some (-1), _, _, _, _, _, rfl, C, by walk_at "sz", .none, .int _ _, ?_⟩
      rw [slice_drop1]
      clear C
      intro _ _ C
      rw [e] at fin
      walk_at "ho"
      refine fin _ _ _ _ C ⟨⟨_, by walk_at "mm lk"⟩, ⟨_, by walk_at "mm lk"⟩, ⟨_, by rw [show min (k + 1) l.length = k + 1 by lia]; walk_at "mm lk"⟩, by walk_at "mm lk", by walk_at "mm lk", by walk_at "mm lk"⟩
end
-- MSio2
section
theorem spSioInit {w : World} {A : Around} {s : Shared} {x dx : Addr} {l : List Nat} {t : Tok} {j : Nat} {R : Result → Shared → Prop} (G : Gd w (dropA s.heap [x, dx])) (G0 : Gd w s.heap) (R0 : Rm j A) (hj : j ≤ 80) (hg : s.gens = #[])
    (hx : ∃ o, s.heap.get? x = some o ∧ instP 630 dx o) (hd : ∃ o, s.heap.get? dx = some o ∧ nsP [] (fun _ => none) o) (hne : x ≠ dx)
    (h : ∀ s', KeepsBut [dx] s.heap s'.heap → s'.os = s.os → s'.gens = #[] → (∃ o, s'.heap.get? dx = some o ∧ sioP l 0 o) → R (.ok (.ret .none)) s') :
    codeAny (Md w) A (.call (.ref 400) ⟨[.ref x, .str (S l) t], []⟩) R s := by
  have h393 := G0.K _ _ (show (KK w).lookup 393 = some (k393 PG w.params) by kernel_rfl)
  refine codeKv (binds := [("self", .ref x), ("initial_value", .str (S l) t), ("newline", .str (S [10]) 954)]) G0 R0 (by walk_at "om") (lk400 w) (cd400 w) (BindsTo.of_defaults rfl h393 rfl rfl rfl) rfl (by kernel_rfl) rfl rfl rfl hg [(x, instP 630 dx), (dx, nsP [] fun _ => none)] (by simp; exact ⟨hx, hd⟩) (by simpa using hne) ?_
  intro L s' C
  change At s.os (dropA s.heap [x, dx]) L _ [(x, instP 630 dx), (dx, nsP [] fun _ => none)] s' at C
  have R' := R0.deeper (envOf "StringIO.__init__" (fnScope (clsAt PG 20 1)) L 400 (.ref 399))
  have fin : ∀ (mB : Str → Option Value) (m : Str → Option Value) (s2 : Shared), At s.os (dropA s.heap [x, dx]) L m [(x, instP 630 dx), (dx, nsP sioKs mB)] s2 → sioF l 0 mB → R (.ok (.ret .none)) s2 := by
    intro mB m s2 C2 hF
    obtain ⟨ox, hox, rfl⟩ := hx
    refine h s2 (fun b o hb e => ?_) C2.os C2.gens ?_
    · by_cases ex : b = x
      · subst ex
        obtain ⟨o2, h2, rfl⟩ := C2.get (.head _)
        rw [hox] at e; cases e; exact h2
      · refine C2.keep b o ?_
        rw [dropA_get, if_neg (by simp only [List.mem_cons, List.not_mem_nil, or_false, not_or]; exact ⟨ex, fun q => hb (by rw [q]; exact .head _)⟩)]
        exact e
    · obtain ⟨o2, h2, h3⟩ := C2.get (.tail _ (.head _))
      exact ⟨o2, h2, mB, h3, hF⟩
  walk_at "xs"
  walk_at "mms"
  refine brB (fun _ => ?_) (fun h => absurd h (by decide))
  walk_at "mms"
  refine brB (fun h => absurd h (by decide)) (fun _ => ?_)
  walk_at "mms"
  walk_at "mnew"
  walk_at "mms"
  walk_at "mnew"
  walk_at "mms"
  walk_at "mnew"
  walk_at "mms"
  rename At _ _ _ _ _ _ => C
  refine spSioTr (C.gd G) R' (by walk_at "om") C.gens (C.instB (.head _) (.tail _ (.head _))) (by walk_at "mm lk") ?_
  intro s2 k2 o2 g2
  have C2 := C.grow k2 o2 (g2.trans C.gens.symm)
  clear C
  walk_at "mms"
  rename At _ _ _ _ _ _ => C
  exact fin _ _ _ C ⟨⟨_, by walk_at "mm lk"⟩, ⟨_, by walk_at "mm lk"⟩, ⟨_, by walk_at "mm lk"⟩, by walk_at "mm lk", by walk_at "mm lk", by walk_at "mm lk"⟩
end
-- MShx
section
noncomputable def shKs : List Str := ["instream", "infile", "posix", "eof", "commenters", "wordchars", "whitespace", "whitespace_split", "quotes", "escape", "escapedquotes", "state", "pushback", "lineno", "debug", "token", "filestack", "source", "_punctuation_chars"]
structure ShF (x D1 D2 : Addr) (sp : Bool) (cm : List Nat) (mA : Str → Option Value) : Prop where
  instream : mA "instream" = some (.ref x)
  infile : mA "infile" = some .none
  posix : mA "posix" = some (.bool true)
  eof : mA "eof" = some .none
  commenters : ∃ t, mA "commenters" = some (.str (S cm) t)
  wordchars : ∃ wc t, mA "wordchars" = some (.str (S wc) t) ∧ 39 ∉ wc ∧ 34 ∉ wc ∧ wc.length ≤ 1000
  whitespace : ∃ t, mA "whitespace" = some (.str (S [32, 9, 13, 10]) t)
  split : mA "whitespace_split" = some (.bool sp)
  quotes : ∃ t, mA "quotes" = some (.str (S [39, 34]) t)
  escape : ∃ t, mA "escape" = some (.str (S [92]) t)
  escq : ∃ t, mA "escapedquotes" = some (.str (S [34]) t)
  pushback : mA "pushback" = some (.ref D1)
  debug : ∃ t, mA "debug" = some (.int 0 t)
  filestack : mA "filestack" = some (.ref D2)
  source : mA "source" = some .none
  pc : ∃ t, mA "_punctuation_chars" = some (.str (S []) t)
  noR : mA "read_token" = none
  noG : mA "get_token" = none
  noP : mA "punctuation_chars" = none
theorem spShInit {w : World} {A : Around} {s : Shared} {X DX : Addr} {l : List Nat} {t : Tok} {j : Nat} {R : Result → Shared → Prop} (G : Gd w (dropA s.heap [X, DX])) (G0 : Gd w s.heap) (R0 : Rm j A) (hj : j ≤ 70) (hg : s.gens = #[]) (hl : l.length ≤ 500000)
    (hx : ∃ o, s.heap.get? X = some o ∧ instP 765 DX o) (hd : ∃ o, s.heap.get? DX = some o ∧ nsP [] (fun _ => none) o) (hne : X ≠ DX)
    (h : ∀ mA x dx D1 D2 (s' : Shared), KeepsBut [DX] s.heap s'.heap → s'.os = s.os → s'.gens = #[] → (∃ o, s'.heap.get? DX = some o ∧ nsP shKs mA o) → ShF x D1 D2 false [35] mA → (∃ t, mA "state" = some (.str (S [32]) t)) → (∃ t, mA "token" = some (.str (S []) t)) →
      (∃ n t, mA "lineno" = some (.int n t)) → (∀ a ∈ [x, dx, D1, D2], s.heap.get? a = none) → [x, dx, D1, D2].Nodup → (∃ o, s'.heap.get? x = some o ∧ instP 630 dx o) → (∃ o, s'.heap.get? dx = some o ∧ sioP l 0 o) → s'.heap.get? D1 = some deqO → s'.heap.get? D2 = some deqO → R (.ok (.ret .none)) s') :
    codeAny (Md w) A (.call (.ref 689) ⟨[.ref X, .str (S l) t], [("posix", .bool true)]⟩) R s := by
  have h682 := G0.K _ _ (show (KK w).lookup 682 = some (k682 PG w.params) by kernel_rfl)
  refine codeKv (binds := [("self", .ref X), ("instream", .str (S l) t), ("infile", .none), ("posix", .bool true), ("punctuation_chars", .bool false)]) G0 R0 (by walk_at "om") (lk689 w) (cd689 w) (BindsTo.of_defaults rfl h682 rfl rfl rfl) rfl (by kernel_rfl) rfl rfl rfl hg [(X, instP 765 DX), (DX, nsP [] fun _ => none)] (by simp; exact ⟨hx, hd⟩) (by simpa using hne) ?_
  intro L s' C
  change At s.os (dropA s.heap [X, DX]) L _ [(X, instP 765 DX), (DX, nsP [] fun _ => none)] s' at C
  have R' := R0.deeper (envOf "shlex.__init__" (fnScope (clsAt PG 29 0)) L 689 (.ref 688))
  walk_at "xs"
  walk_at "mms"
  rename At _ _ _ _ _ _ => C
  refine newStringIO C G R' (by walk_at "om") ?_
  intro x dx s1 C1
  clear C
  have nx : ∀ a ∈ [x, dx], (dropA s.heap [X, DX]).get? a = none := in2 (C1.gown _ (.head _)).1 (C1.gown _ (.tail _ (.head _))).1
  have nd := nd4 C1.nd
  refine spSioInit (l := l) (G.keeps (keepsDrop C1.keep nx)) (C1.gd G) (R'.underTC 630 _ _) (by walk_at "om") C1.gens (C1.get (.head _)) (C1.get (.tail _ (.head _))) nd.1.1 ?_
  intro s2 k2 o2 g2 d2
  refine ⟨rfl, ?_⟩
  have C2 := C1.growBut (P' := sioP l 0) (.tail .head) k2 d2 o2 (g2.trans C1.gens.symm)
  clear C1
  repeat' (first | walk_at "mm" | walk_at "mnewu" | fail "stop")
  repeat' (first | walk_at "mm" | walk_at "mnewu" | fail "stop")
  refine brB (fun h => absurd h (by decide)) (fun _ => ?_)
  walk_at "mms"
  rename At _ _ _ _ _ _ => C
  have nd := nd6 C.nd
  obtain ⟨o1, e1, rfl⟩ := C.get (.head _)
  obtain ⟨o2, e2, rfl⟩ := C.get (.tail _ (.head _))
  have n0 : ∀ a, (dropA s.heap [X, DX]).get? a = none → a ≠ X → a ≠ DX → s.heap.get? a = none := fun a e h1 h2 => by rw [dropA_get, if_neg (by simp [h1, h2])] at e; exact e
  have gn := fun (a : Addr) (P : OP) (hm : (a, P) ∈ _) => (C.gown (a, P) hm).1
  obtain ⟨ox, hox, rfl⟩ := hx
  refine h _ _ _ _ _ _ (fun b o hb e => ?_) C.os C.gens (C.get (.tail _ (.tail _ (.tail _ (.tail _ (.tail _ (.head _)))))))
    ⟨by walk_at "mm lk", by walk_at "mm lk", by walk_at "mm lk", by walk_at "mm lk", ⟨_, by walk_at "mm lk"⟩, ⟨_, _, by walk_at "mm lk", by decide +kernel, by decide +kernel, by decide +kernel⟩, ⟨_, by walk_at "mm lk"⟩, by walk_at "mm lk", ⟨_, by walk_at "mm lk"⟩, ⟨_, by walk_at "mm lk"⟩, ⟨_, by walk_at "mm lk"⟩, by walk_at "mm lk", ⟨_, by walk_at "mm lk"⟩, by walk_at "mm lk", by walk_at "mm lk", ⟨_, by walk_at "mm lk"⟩, by walk_at "mm lk", by walk_at "mm lk", by walk_at "mm lk"⟩
    ⟨_, by walk_at "mm lk"⟩ ⟨_, by walk_at "mm lk"⟩ ⟨_, _, by walk_at "mm lk"⟩ ?_ ?_ (C.get (.tail _ (.tail _ (.head _)))) (C.get (.tail _ (.tail _ (.tail _ (.head _))))) e2 e1
  · by_cases ex : b = X
    · subst ex
      obtain ⟨o3, h3, rfl⟩ := C.get (.tail _ (.tail _ (.tail _ (.tail _ (.head _)))))
      rw [hox] at e; cases e; exact h3
    · refine C.keep b o ?_
      rw [dropA_get, if_neg (by simp only [List.mem_cons, List.not_mem_nil, or_false, not_or]; exact ⟨ex, fun q => hb (by rw [q]; exact .head _)⟩)]
      exact e
  · obtain ⟨⟨q1, q2, q3, q4, q5⟩, ⟨q6, q7, q8, q9⟩, ⟨q10, q11, q12⟩, ⟨q13, q14⟩, q15⟩ := nd
    refine in4 ?_ ?_ ?_ ?_
    · exact n0 _ (C.gown _ (.tail _ (.tail _ (.head _)))).1 q11 q12
    · exact n0 _ (C.gown _ (.tail _ (.tail _ (.tail _ (.head _))))).1 q13 q14
    · exact n0 _ (C.gown _ (.tail _ (.head _))).1 q8 q9
    · exact n0 _ (C.gown _ (.head _)).1 q4 q5
  · obtain ⟨⟨q1, q2, q3, q4, q5⟩, ⟨q6, q7, q8, q9⟩, ⟨q10, q11, q12⟩, ⟨q13, q14⟩, q15⟩ := nd
    refine nd4' ⟨⟨q10, fun e => q6 e.symm, fun e => q2 e.symm⟩, ⟨fun e => q7 e.symm, fun e => q3 e.symm⟩, fun e => q1 e.symm⟩
end
-- MErr
section
noncomputable abbrev veO (t : Addr) : Obj := { cls := .type "ValueError", data := .fields #[.ref t, .none, .none, .none, .bool false, .none] }
noncomputable abbrev veT (vs : List Value) : Obj := { cls := .type "tuple", data := .seq vs.toArray }
section
variable {w : World} {A : Around} {E : Value → Shared → Prop} {O : OsState} {g : Heap} {L : Addr} {m : Str → Option Value} {own own' : Own} {s : Shared}
theorem callVE {v : Value} {Q : Value → Shared → Prop} (C : At O g L m own s)
    (h : ∀ e t s', At O g L m own s' → s.heap.get? e = none → s.heap.get? t = none → s'.heap.get? e = some (veO t) → s'.heap.get? t = some (veT [v]) → Keeps s.heap s'.heap → Q (.ref e) s') :
    wpAny (Md w) A (call (.type "ValueError") [v]) Q E s := by
  obtain ⟨hp, gg, d, tk, os⟩ := s
  refine wpAny_call_exc PySem.F.excCall_ValueError (fun h' e hm => ?_) (hrest := by show (1 : Nat) ≤ sizeLine; unfold sizeLine; lia)
  obtain ⟨t, h1, h2, h3⟩ := hm.there
  exact h e t _ (C.grow hm.keeps rfl rfl) hm.new h2 h1 h3 hm.keeps
end
end
-- MErr2
section
noncomputable abbrev frs (l : List Env) : List Addr := l.filterMap (·.frame)
noncomputable def FrH (l : List Env) (chg : List Addr) (h : Heap) : Prop := ∀ env ∈ l, env.scope.kind ≠ .module ∧ ∃ L o, env.frame = some L ∧ L ∉ chg ∧ h.get? L = some o ∧ ∀ vs, o.data ≠ .fields vs
noncomputable def TupS (h : Heap) (t : Addr) (vs : List Value) : Prop := ∃ o n, h.get? t = some o ∧ o.cls = .type "tuple" ∧ o.data = .seq vs.toArray n
theorem TupS.slots {h h' : Heap} {t : Addr} {vs : List Value} (x : TupS h t vs) (u : h.UpToSlots h') : TupS h' t vs := by
  obtain ⟨o, n, h1, h2, h3⟩ := x
  obtain ⟨sl, e⟩ := u t o h1 fun vs q => by rw [h3] at q; cases q
  exact ⟨_, n, e, h2, h3⟩
structure ErrR (l : List Env) (chg : List Addr) (msg : List Nat) (s s' : Shared) (e : Value) : Prop where
  ex : ∃ ea t tk, e = .ref ea ∧ Heap.FlyingW (dropA s.heap (chg ++ frs l)) l ea (.type "ValueError") (.ref t) s'.heap ∧ TupS s'.heap t [.str (S msg) tk] ∧ (dropA s.heap (chg ++ frs l)).get? t = none
  os : s'.os = s.os
  gens : s'.gens = #[]
  ns : ∀ L ∈ frs l, L ∉ chg → ∀ m, s.heap.Ns L m → s'.heap.Ns L m
theorem keepsDrop2 {h : Heap} {a b : List Addr} (k : ∀ x ∈ a, x ∈ b) : Keeps (dropA h b) (dropA h a) := fun x o e => by
  rw [dropA_get] at e ⊢
  split at e
  · cases e
  · rename_i n; rw [if_neg (fun q => n (k x q))]; exact e
theorem funFrames_of {h base : Heap} : ∀ {l : List Env}, (∀ env ∈ l, env.scope.kind ≠ .module ∧ ∃ L o, env.frame = some L ∧ base.get? L = none ∧ h.get? L = some o ∧ ∀ vs, o.data ≠ .fields vs) → h.FunFrames base l
  | [], _ => trivial
  | env :: l, k => ⟨(k env (.head _)).1, (k env (.head _)).2, funFrames_of fun e he => k e (.tail _ he)⟩
section
variable {w : World} {A : Around} {O : OsState} {L : Addr} {m : Str → Option Value} {own : Own} {s0 s : Shared} {chg0 : List Addr} {l0 : List Env} {env : Env}
theorem frames1 (C : At O (dropA s0.heap chg0) L m own s) (hF : FrH l0 chg0 s0.heap) (hf : env.frame = some L) (hk : env.scope.kind = .function) : s.heap.FunFrames (dropA s0.heap (chg0 ++ frs l0)) (env :: l0) := by
  refine funFrames_of fun e he => ?_
  rcases List.mem_cons.mp he with rfl | he
  · refine ⟨by rw [hk]; decide, L, ?_⟩
    obtain ⟨o, es, ep, h1, h2, _⟩ := C.ns
    exact ⟨o, hf, none_of_keeps (keepsDrop2 fun x hx => List.mem_append_left _ hx) C.gL, h1, fun vs q => by rw [h2] at q; cases q⟩
  · obtain ⟨k1, L', o, h1, h2, h3, h4⟩ := hF e he
    refine ⟨k1, L', o, h1, ?_, C.keep _ _ (by rw [dropA_get, if_neg h2]; exact h3), h4⟩
    rw [dropA_get, if_pos (List.mem_append_right _ (List.mem_filterMap.mpr ⟨e, he, h1⟩))]
theorem stays1 (C : At O (dropA s0.heap chg0) L m own s) : (dropA s0.heap (chg0 ++ frs l0)).StaysIn s.heap := fun b o e => C.keep b o (keepsDrop2 (fun x hx => List.mem_append_left _ hx) b o e)
theorem ns1 (C : At O (dropA s0.heap chg0) L m own s) {L' : Addr} (hn : L' ∉ chg0) {m' : Str → Option Value} (x : s0.heap.Ns L' m') : s.heap.Ns L' m' := by
  obtain ⟨o, es, ep, e, r⟩ := x
  exact ⟨o, es, ep, C.keep _ _ (by rw [dropA_get, if_neg hn]; exact e), r⟩
theorem setFlightL {M : Model} {E : Value → Shared → Prop} {base : Heap} {l : List Env} {e L : Addr} {cls a0 : Value} {Q : Unit → Shared → Prop}
    (hh : Heap.HeldW base l e cls a0 L s.heap) (h : ∀ h', Heap.HeldW base l e cls a0 L h' → s.heap.UpToSlots h' → Q () { s with heap := h' }) : wpAny M A (setFlight (.ref e) (some L)) Q E s := by
  obtain ⟨hkb, hen, hl, oe, vs, T, oT, ts, he, hcls, hd, h1, hnT, hTe, hT, hdT, h3⟩ := hh
  have hsz3 : 3 < ts.size := (Array.getElem?_eq_some_iff.mp h3).1
  have other : ∀ b, b ≠ T → (s.heap.update T (Obj.mapFields (·.setIfInBounds 3 ((some L).elim Value.none fun f => rawInt f)))).get? b = s.heap.get? b :=
    fun b hb => Heap.get?_update_other _ _ (Ne.symm hb)
  have noRecord : ∀ b o, s.heap.get? b = some o → (∀ vs, o.data ≠ .fields vs) → b ≠ T := fun b o hb hnf q => by
    rw [q, hT] at hb; injection hb with hb; subst hb; exact hnf ts hdT
  unfold setFlight
  refine wpAny_bind (wpAny_field he hd h1 ?_)
  rw [if_pos (show (Value.ref T != Value.none) = true from by simp)]
  refine wpAny_setField hT hdT hsz3 (h _ ⟨fun b o hbo => (other b fun q => by rw [q, hnT] at hbo; cases hbo).trans (hkb b o hbo), hen,
    hl.of_keeps fun b o hb hnf => ⟨o, (other b (noRecord b o hb hnf)).trans hb, rfl⟩, ?_⟩ fun b o hb hnf => ⟨o.slots, (other b (noRecord b o hb hnf)).trans hb⟩)
  exact ⟨oe, vs, T, _, _, (other e (Ne.symm hTe)).trans he, hcls, hd, h1, hnT, hTe, Heap.get?_update_self _ hT (Obj.isFreed_of_fields (Obj.data_mapFields hdT _)), Obj.data_mapFields hdT _, by simp [hsz3]⟩
theorem errLoop {E2 : Value → Shared → Prop} {Ef : Value → Shared → Prop} {e t : Addr} {tk : Tok} {msg : List Nat} (hA : A.frames = some l0) (C : At s0.os (dropA s0.heap chg0) L m own s) (hF : FrH l0 chg0 s0.heap) (hf : env.frame = some L) (hk : env.scope.kind = .function)
    (n1 : (dropA s0.heap chg0).get? e = none) (n2 : (dropA s0.heap chg0).get? t = none) (e1 : s.heap.get? e = some (veO t)) (e2 : s.heap.get? t = some (veT [.str (S msg) tk]))
    (k : ∀ s3, ErrR l0 chg0 msg s0 s3 (.ref e) → Ef (.ref e) s3) :
    notedBy (Md w) (A.deeper env) env (fun x s' => cameBackBy (Md w) (A.deeper env) env (fun x s' => wpAny (Md w) (A.deeper env) (leaving env x) (fun _ s3 => Ef x s3) E2 s') x s') (.ref e) s := by
  have hfr : (A.deeper env).frames = some (env :: l0) := by show A.frames.map _ = _; rw [hA]; rfl
  have b1 : (dropA s0.heap (chg0 ++ frs l0)).get? e = none := none_of_keeps (keepsDrop2 fun x hx => List.mem_append_left _ hx) n1
  have b2 : (dropA s0.heap (chg0 ++ frs l0)).get? t = none := none_of_keeps (keepsDrop2 fun x hx => List.mem_append_left _ hx) n2
  have fin : ∀ h', Heap.NotedW (dropA s0.heap (chg0 ++ frs l0)) (env :: l0) e (.type "ValueError") (.ref t) (rawInt L) s.heap h' → cameBackBy (Md w) (A.deeper env) env (fun x s' => wpAny (Md w) (A.deeper env) (leaving env x) (fun _ s3 => Ef x s3) E2 s') (.ref e) { s with heap := h' } := by
    intro h0 hN
    obtain ⟨w1, w2, w3, w4⟩ := hN
    obtain ⟨oe, vs, T, oT, ts, p1, p2, p3, p4, p5, p6, p7, p8, p9⟩ := id w3
    unfold cameBackBy
    refine wpAny_bind (wpAny_field (s := { s with heap := h0 }) p1 p3 p4 ?_)
    rw [if_neg (show ¬ ((Value.ref T == Value.none) = true) from by simp), hf]
    refine setFlightL (s := { s with heap := h0 }) ⟨w1, b1, w2, w3⟩ fun h' hH u0 => ?_
    obtain ⟨x1, _, x2, x3⟩ := hH
    have x4 : s.heap.UpToSlots h' := Heap.UpToSlots.trans w4 u0
    unfold leaving
    refine wpAny_bind (wpAny_noteFrame_againW hf x3 ?_)
    refine wpAny_landsW (s := { s with heap := h' }) ⟨x1, b1, x2, x3⟩ fun h2 y1 y2 => ?_
    obtain ⟨z1, z2, ⟨_, _, z3⟩, z4⟩ := y1
    have u : s.heap.UpToSlots h2 := Heap.UpToSlots.trans x4 y2
    refine k _ ⟨⟨e, t, tk, rfl, ⟨z1, z2, z3, z4⟩, TupS.slots ⟨_, 0, e2, rfl, rfl⟩ u, b2⟩, C.os, C.gens, fun L' _ hn m' hm => ?_⟩
    exact u.ns (ns1 C hn hm)
  show wpAny (Md w) (A.deeper env) (noteFrame (.ref e) env) (fun _ s'' => _) _ s
  unfold noteFrame
  simp only [hf]
  refine wpAny_bind (wpAny_field e1 rfl (x := .none) rfl ?_)
  rw [if_neg (by decide)]
  exact wpAny_entryW hfr (frames1 C hF hf hk) hf e1 (stays1 C) b1 rfl (by show 1 < 6; decide) rfl fun h' hN => fin h' hN
theorem errThrough {E2 : Value → Shared → Prop} {Ef : Value → Shared → Prop} {e : Value} {s1 : Shared} {chg : List Addr} {msg : List Nat} (hA : A.frames = some l0) (C : At s0.os (dropA s0.heap chg0) L m own s) (hF : FrH l0 chg0 s0.heap) (hf : env.frame = some L) (hk : env.scope.kind = .function)
    (hc : ∀ a ∈ chg, (dropA s0.heap chg0).get? a = none ∧ a ≠ L) (X : ErrR (env :: l0) chg msg s s1 e) (k : ∀ s3, ErrR l0 chg0 msg s0 s3 e → Ef e s3) :
    wpAny (Md w) (A.deeper env) (leaving env e) (fun _ s3 => Ef e s3) E2 s1 := by
  have hfr : (A.deeper env).frames = some (env :: l0) := by show A.frames.map _ = _; rw [hA]; rfl
  obtain ⟨⟨ea, t, tk, rfl, hfl, ht, hb⟩, ho, hg, hns⟩ := X
  have st : (dropA s0.heap (chg0 ++ frs l0)).StaysIn (dropA s.heap (chg ++ frs (env :: l0))) := by
    intro b o e
    have e' := e
    rw [dropA_get] at e
    split at e
    · cases e
    · rename_i n
      have h1 : (dropA s0.heap chg0).get? b = some o := by rw [dropA_get, if_neg (fun q => n (List.mem_append_left _ q))]; exact e
      rw [dropA_get, if_neg]
      · exact C.keep _ _ h1
      · intro q
        rcases List.mem_append.mp q with q | q
        · rw [(hc b q).1] at h1; cases h1
        · have q : b ∈ (env.frame.toList ++ frs l0) := by
            unfold frs at q ⊢
            rw [List.filterMap_cons] at q
            rw [hf] at q ⊢
            exact q
          rcases List.mem_append.mp q with q | q
          · rw [hf] at q
            rw [List.mem_singleton.mp q, C.gL] at h1; cases h1
          · exact n (List.mem_append_right _ q)
  have hfl2 := flyingW_base st hfl
  refine wpAny_leaves_onW hfr hf hfl2 fun h' y1 y2 => ?_
  refine k _ ⟨⟨ea, t, tk, rfl, y1, ht.slots y2, fresh_of_stays st hb⟩, ho.trans C.os, hg, fun L' hL' hn m' hm => y2.ns (hns L' ?_ (fun q => ?_) m' (ns1 C hn hm))⟩
  · unfold frs at hL' ⊢; rw [List.filterMap_cons, hf]; exact .tail _ hL'
  · obtain ⟨o, es, ep, e, r⟩ := hm
    have : (dropA s0.heap chg0).get? L' = some o := by rw [dropA_get, if_neg hn]; exact e
    rw [(hc L' q).1] at this; cases this
theorem frh1 {chg : List Addr} (C : At O (dropA s0.heap chg0) L m own s) (hF : FrH l0 chg0 s0.heap) (hf : env.frame = some L) (hk : env.scope.kind = .function) (hc : ∀ a ∈ chg, (dropA s0.heap chg0).get? a = none ∧ a ≠ L) : FrH (env :: l0) chg s.heap := by
  intro e he
  rcases List.mem_cons.mp he with rfl | he
  · obtain ⟨o, es, ep, h1, h2, _⟩ := C.ns
    exact ⟨by rw [hk]; decide, L, o, hf, fun q => (hc L q).2 rfl, h1, fun vs q => by rw [h2] at q; cases q⟩
  · obtain ⟨k1, L', o, h1, h2, h3, h4⟩ := hF e he
    have h5 : (dropA s0.heap chg0).get? L' = some o := by rw [dropA_get, if_neg h2]; exact h3
    exact ⟨k1, L', o, h1, fun q => (by rw [(hc L' q).1] at h5; cases h5), C.keep _ _ h5, h4⟩
end
end
-- MErr3
section
structure StopR (l : List Env) (chg : List Addr) (s s' : Shared) (e : Value) : Prop where
  ex : ∃ ea t, e = .ref ea ∧ Heap.FlyingW (dropA s.heap (chg ++ frs l)) l ea (.type "StopIteration") (.ref t) s'.heap
  os : s'.os = s.os
  gens : s'.gens = #[]
  ns : ∀ L ∈ frs l, L ∉ chg → ∀ m, s.heap.Ns L m → s'.heap.Ns L m
section
variable {w : World} {A : Around} {O : OsState} {L : Addr} {m : Str → Option Value} {own : Own} {s0 s : Shared} {chg0 : List Addr} {l0 : List Env} {env : Env}
theorem stopLeave {E2 : Value → Shared → Prop} {Ef : Value → Shared → Prop} {h' : Heap} {e : Addr} (hA : A.frames = some l0) (C : At s0.os (dropA s0.heap chg0) L m own s) (hF : FrH l0 chg0 s0.heap) (hf : env.frame = some L) (hk : env.scope.kind = .function)
    (hm : Heap.MadeExc s.heap h' e "StopIteration" []) (k : ∀ s3, StopR l0 chg0 s0 s3 (.ref e) → Ef (.ref e) s3) :
    wpAny (Md w) (A.deeper env) (leaving env (.ref e)) (fun _ s3 => Ef (.ref e) s3) E2 { s with heap := h' } := by
  have hfr : (A.deeper env).frames = some (env :: l0) := by show A.frames.map _ = _; rw [hA]; rfl
  have C1 := C.grow (s' := { s with heap := h' }) hm.keeps rfl rfl
  obtain ⟨t, h1, h2, h3⟩ := hm.there
  have b1 : (dropA s0.heap (chg0 ++ frs l0)).get? e = none := none_of_keeps (keepsDrop2 fun x hx => List.mem_append_left _ hx) (none_of_keeps C.keep hm.new)
  refine wpAny_leaving_firstW (s := { s with heap := h' }) hfr (frames1 C1 hF hf hk) hf h1 (stays1 C1) b1 rfl rfl rfl fun h4 hL => ?_
  obtain ⟨x1, ⟨_, _, x2⟩, x3, x4⟩ := hL
  exact k _ ⟨⟨e, t, rfl, x1, b1, x2, x3⟩, C1.os, C1.gens, fun L' _ hn m' hm' => Heap.UpToSlots.ns x4 (ns1 C1 hn hm')⟩
theorem At.afterStop {s1 : Shared} {chg : List Addr} {own' : Own} {e : Value} (C : At O (dropA s0.heap chg0) L m own s) (X : StopR (env :: l0) chg s s1 e) (hf : env.frame = some L) (hsub : own'.Sublist own) (hoc : ∀ p ∈ own', p.1 ∉ chg ∧ p.1 ∉ frs l0) (hc : ∀ a ∈ chg, (dropA s0.heap chg0).get? a = none ∧ a ≠ L) :
    At O (dropA s0.heap (chg0 ++ frs l0)) L m own' s1 := by
  obtain ⟨⟨ea, t, rfl, f1, f2, f3, f4⟩, ho, hg, hns⟩ := X
  have C' := C.drop hsub
  have low : Keeps (dropA s0.heap (chg0 ++ frs l0)) (dropA s0.heap chg0) := keepsDrop2 fun x hx => List.mem_append_left _ hx
  have stay : ∀ b o, s.heap.get? b = some o → b ∉ chg → b ≠ L → b ∉ frs l0 → s1.heap.get? b = some o := by
    intro b o e n1 n2 n3
    refine f1 b o ?_
    rw [dropA_get, if_neg]
    · exact e
    · intro q
      rcases List.mem_append.mp q with q | q
      · exact n1 q
      · unfold frs at q
        rw [List.filterMap_cons, hf] at q
        rcases List.mem_cons.mp q with q | q
        · exact n2 q
        · exact n3 q
  refine ⟨fun b o e => ?_, fun p hp => ?_, ?_, none_of_keeps low C.gL, fun p hp => ⟨none_of_keeps low (C'.gown p hp).1, (C'.gown p hp).2⟩, C'.nd, ho.trans C.os, hg⟩
  · have e' := low b o e
    refine stay b o (C.keep b o e') (fun q => by rw [(hc b q).1] at e'; cases e') (fun q => by rw [q, C.gL] at e'; cases e') (fun q => ?_)
    rw [dropA_get, if_pos (List.mem_append_right _ q)] at e; cases e
  · obtain ⟨o, e, r⟩ := C'.ow p hp
    exact ⟨o, stay _ _ e (hoc p hp).1 (C'.gown p hp).2 (hoc p hp).2, r⟩
  · refine hns L ?_ (fun q => (hc L q).2 rfl) m C.ns
    unfold frs; rw [List.filterMap_cons, hf]; exact .head _
end
end
-- MTok
section
theorem pc_ha (w : World) : findIn (KK w) (.ref 765) "punctuation_chars" = some (some (.ref 697)) := by kernel_rfl
theorem pc_hn (w : World) : specialIn (KK w) (.ref 697) "__get__" = some (some (.builtin "property.__get__")) := by kernel_rfl
theorem pc_ht (w : World) : takesIn (KK w) (.ref 697) = some true := by kernel_rfl
theorem pc_hp (w : World) : recIn (KK w) 697 "property" = some [.ref 696, .none, .none, .none, .str "punctuation_chars" 1317, .bool false] := by kernel_rfl
theorem pc_hg (w : World) : plainGet (KK w) 765 "punctuation_chars" = true := by kernel_rfl
theorem pc_hc (w : World) : (clsIn (KK w) 765).isSome = true := by kernel_rfl
theorem spPC {w : World} {A : Around} {s : Shared} {X DX : Addr} {j : Nat} {ks : List Str} {mA : Str → Option Value} {v : Value} {R : Result → Shared → Prop} (G : Gd w s.heap) (R0 : Rm j A) (hj : j ≤ 90) (hg : s.gens = #[])
    (b : InstB s.heap X 765 DX ks mA) (h1 : mA "_punctuation_chars" = some v) (hv : handedIn v = true)
    (h : ∀ s', Keeps s.heap s'.heap → s'.os = s.os → s'.gens = #[] → R (.ok (.ret v)) s') : codeAny (Md w) A (.call (.ref 696) ⟨[.ref X], []⟩) R s := by
  refine codeKv (binds := [("self", .ref X)]) G R0 (by walk_at "om") (lk696 w) (cd696 w) (BindsTo.of_eq rfl) rfl (by kernel_rfl) rfl rfl rfl hg [] (by simp) .nil ?_
  intro L s' C
  change At s.os s.heap L _ [] s' at C
  have R' := R0.deeper (envOf "shlex.punctuation_chars" (fnScope (clsAt PG 29 1)) L 696 (.ref 695))
  walk_at "xs"
  refine wpAny_Return_some (Attribute_any_ ?_)
  walk_at "mm"
  rename At _ _ _ _ _ _ => C
  refine attrGetB C G b h1 (AF.of (by kernel_rfl)) hv ?_
  clear C
  intro s2 C
  walk_at "ho"
  exact h _ C.keep C.os C.gens
section
variable {w : World} {A : Around} {E : Value → Shared → Prop} {O : OsState} {g : Heap} {L : Addr} {m : Str → Option Value} {own own' : Own} {s : Shared} {X DX : Addr} {ks : List Str} {mA : Str → Option Value} {v : Value}
theorem propPC {expr : Bool} {j : Nat} {Q : Value → Shared → Prop} (Ct : At O g L m own s) (G : Gd w g) (R : Rm j A) (hj : j ≤ 80) (hx : (X, instP 765 DX) ∈ own) (hd : (DX, nsP ks mA) ∈ own) (h1 : mA "_punctuation_chars" = some v) (hv : handedIn v = true)
    (h : ∀ s', At O g L m own s' → Q v s') : wpAny (Md w) A (getAttr (.ref X) "punctuation_chars" expr) Q E s := by
  obtain ⟨od, hn, hod, I⟩ := instAt Ct hx hd
  have K := (Ct.gd G).K
  refine get_bind K I (plainGet_of (pc_hg w)).1 (findObj_data (pc_hc w) (pc_ha w) (pc_hn w) (pc_ht w)) (plainGet_of (pc_hg w)).2 (wpAny_call (prop_get (s := { s with toks := s.toks + 1 }) K (pc_hp w) ?_))
  have C1 := Ct.toks (s.toks + 1)
  refine spPC (C1.gd G) R.in1 (by walk_at "om") C1.gens (C1.instB hx hd) h1 hv ?_
  intro s2 k2 o2 g2
  have C2 := C1.grow k2 o2 (g2.trans C1.gens.symm)
  show wpAny _ _ (handedOut v) _ _ _
  rw [handedOut_of hv]
  exact wpAny_pure (h _ C2)
end
end
-- MTok2
section
noncomputable def wsL : List Nat := [32, 9, 13, 10]
noncomputable def qtL : List Nat := [39, 34]
inductive TokR | tok (t : List Nat) (q : Bool) (rest : List Nat) (st : Option Nat) | bad (msg : List Nat)
noncomputable def ncq : List Nat := [78, 111, 32, 99, 108, 111, 115, 105, 110, 103, 32, 113, 117, 111, 116, 97, 116, 105, 111, 110]
noncomputable def nec : List Nat := [78, 111, 32, 101, 115, 99, 97, 112, 101, 100, 32, 99, 104, 97, 114, 97, 99, 116, 101, 114]
noncomputable def rt : List Nat → Option Nat → List Nat → Bool → Nat → TokR
  | inp, none, _, q, _ => .tok [] q (inp.drop 1) none
  | [], some s, tk, q, _ => if s = 32 then .tok tk q [] none else if s ∈ qtL then .bad ncq else if s = 92 then .bad nec else .tok tk q [] none
  | c :: r, some s, tk, q, e =>
    if s = 32 then
      if c ∈ wsL then (if tk ≠ [] ∨ q = true then .tok tk q r (some 32) else rt r (some 32) tk q e)
      else if c = 92 then rt r (some 92) tk q 97
      else if c ∈ qtL then rt r (some c) tk q e
      else rt r (some 97) [c] q e
    else if s ∈ qtL then
      if c = s then rt r (some 97) tk true e
      else if c = 92 ∧ s = 34 then rt r (some 92) tk true s
      else rt r (some s) (tk ++ [c]) true e
    else if s = 92 then
      rt r (some e) ((if e ∈ qtL ∧ c ≠ 92 ∧ c ≠ e then tk ++ [92] else tk) ++ [c]) q e
    else
      if c ∈ wsL then (if tk ≠ [] ∨ q = true then .tok tk q r (some 32) else rt r (some 32) tk q e)
      else if c ∈ qtL then rt r (some c) tk q e
      else if c = 92 then rt r (some 92) tk q 97
      else rt r (some 97) (tk ++ [c]) q e
noncomputable def stV : Option Nat → Value → Prop
  | none, v => v = .none
  | some c, v => ∃ t, v = .str (S [c]) t
noncomputable def okS : Option Nat → Prop
  | none => True
  | some c => c = 32 ∨ c = 97 ∨ c = 39 ∨ c = 34 ∨ c = 92
noncomputable def shP (x D1 D2 : Addr) (st : Option Nat) : OP := fun o => ∃ mA, nsP shKs mA o ∧ ShF x D1 D2 true [] mA ∧ (∃ v, mA "state" = some v ∧ stV st v) ∧ (∃ t, mA "token" = some (.str (S []) t)) ∧ (∃ n t, mA "lineno" = some (.int n t))
theorem ShF.upd {x D1 D2 : Addr} {sp : Bool} {cm : List Nat} {mA : Str → Option Value} (h : ShF x D1 D2 sp cm mA) {n : Str} {v : Value} (hn : n ∈ (["state", "token", "lineno"] : List Str)) : ShF x D1 D2 sp cm (upd mA n v) := by
  have e : ∀ y : Str, y ∉ (["state", "token", "lineno"] : List Str) → Mine.upd mA n v y = mA y := by
    intro y hy
    unfold Mine.upd
    rw [if_neg (fun q => hy (by rw [q]; exact hn))]
  obtain ⟨a1, a2, a3, a4, a5, a6, a7, a8, a9, a10, a11, a12, a13, a14, a15, a16, a17, a18, a19⟩ := h
  refine ⟨?_, ?_, ?_, ?_, ?_, ?_, ?_, ?_, ?_, ?_, ?_, ?_, ?_, ?_, ?_, ?_, ?_, ?_, ?_⟩ <;> (rw [e _ (by decide +kernel)]; assumption)
section
variable {w : World} {A : Around} {E : Value → Shared → Prop} {O : OsState} {g : Heap} {L : Addr} {m : Str → Option Value} {own own' : Own} {s : Shared} {x dx : Addr} {l : List Nat} {k : Nat}
theorem methRead {pl : Sem Bool} {Q : Value × List Value → Shared → Prop} (Ct : At O g L m own s) (G : Gd w g) (hx : (x, instP 630 dx) ∈ own) (hd : (dx, sioP l k) ∈ own) (h : Q (.ref 576, [.ref x]) s) :
    wpAny (Md w) A (getMethod (.ref x) "read" pl) Q E s := by
  obtain ⟨ox, hox, rfl⟩ := Ct.get hx
  obtain ⟨od, hod, mA, hn, f1, f2, f3, f4, f5, f6⟩ := Ct.get hd
  refine method_fn (Ct.gd G).K (ox := instObj 630 dx) (od := some od) ⟨hox, rfl, rfl, hod⟩ (plainGet_of (K := KK w) (C := 630) (name := "read") (by kernel_rfl)).1 (plainGet_of (K := KK w) (C := 630) (name := "read") (by kernel_rfl)).2 (f := 576) (by kernel_rfl) (by kernel_rfl) (by show (lookIn _ od).map _ = _; rw [hn.look, f4]; rfl) h
end
end
-- MTokD
section
noncomputable def tokIf : Stmt := nthS (whileBody (nthS (fnBody (clsAt PG 29 6)) 2)) 3
noncomputable abbrev tokEnv (L : Addr) : Env := envOf "shlex.read_token" (fnScope (clsAt PG 29 6)) L 733 (.ref 732)
noncomputable abbrev tokOwn (X DX x dx : Addr) (l : List Nat) (k : Nat) (mC : Str → Option Value) : Own := [(X, instP 765 DX), (DX, nsP shKs mC), (x, instP 630 dx), (dx, sioP l k)]
structure TokSt (O : OsState) (g : Heap) (L X DX x dx D1 D2 : Addr) (l : List Nat) (k : Nat) (st : Option Nat) (tk : List Nat) (q : Bool) (m : Str → Option Value) (s : Shared) : Prop where
  at_ : ∃ mC, At O g L m (tokOwn X DX x dx l k mC) s ∧ ShF x D1 D2 true [] mC ∧ (∃ v, mC "state" = some v ∧ stV st v) ∧ (∃ t, mC "token" = some (.str (S tk) t)) ∧ (∃ n t, mC "lineno" = some (.int n t))
  self : m "self" = some (.ref X)
  quoted : m "quoted" = some (.bool q)
  ok : okS st
noncomputable def eOk (e : Nat) : Prop := e = 32 ∨ e = 97 ∨ e = 34
noncomputable def tokOut (O : OsState) (g : Heap) (L X DX x dx D1 D2 : Addr) (l : List Nat) (k n : Nat) (nc : List Nat) (r : TokR) (fl : Flow) (s' : Shared) : Prop := match fl with
  | .next | .cont => ∃ st3 tk3 q3 e3 m3, TokSt O g L X DX x dx D1 D2 l k st3 tk3 q3 m3 s' ∧ (∃ t, m3 "escapedstate" = some (.str (S [e3]) t)) ∧ eOk e3 ∧ tk3.length ≤ n + 2 ∧ r = rt (l.drop k) st3 tk3 q3 e3 ∧ nc ≠ []
  | .brk => ∃ st3 tk3 q3 m3, TokSt O g L X DX x dx D1 D2 l k st3 tk3 q3 m3 s' ∧ tk3.length ≤ n + 2 ∧ r = .tok tk3 q3 (l.drop k) st3
  | .ret _ => False
noncomputable def TokErr (O : OsState) (g : Heap) (L X DX x dx : Addr) (l : List Nat) (k : Nat) (r : TokR) (E : Value → Shared → Prop) : Prop :=
  ∀ e t tk m' mD s' msg, At O g L m' (tokOwn X DX x dx l k mD) s' → g.get? e = none → g.get? t = none → s'.heap.get? e = some (veO t) → s'.heap.get? t = some (veT [.str (S msg) tk]) → r = .bad msg → E (.ref e) s'
section
variable {w : World} {A : Around} {E : Value → Shared → Prop} {O : OsState} {g : Heap} {L X DX x dx D1 D2 : Addr} {s : Shared} {l : List Nat} {k j : Nat} {tk nc : List Nat} {q : Bool} {esc : Nat} {m mC : Str → Option Value} {et t20 t21 : Tok} {inp : List Nat}
theorem tokNone (C : At O g L m (tokOwn X DX x dx l k mC) s) (G : Gd w g) (R : Rm j A) (hj : j ≤ 80) (hF : ShF x D1 D2 true [] mC) (hsv : mC "state" = some .none) (htk : mC "token" = some (.str (S tk) t21)) (hln : ∃ n t, mC "lineno" = some (.int n t))
    (m1 : m "self" = some (.ref X)) (m2 : m "quoted" = some (.bool q)) (m3 : m "escapedstate" = some (.str (S [esc]) et)) (m5 : m "nextchar" = some (.str (S nc) t20)) (hnc : inp.take 1 = nc) (hin : inp.drop 1 = l.drop k) (hl : tk.length ≤ 1000000) (he : eOk esc) :
    wpAny (Md w) A (exec tokIf (tokEnv L)) (tokOut O g L X DX x dx D1 D2 l k tk.length nc (rt inp none tk q esc)) E s := by
  obtain ⟨a1, a2, a3, a4, ⟨t5, a5⟩, ⟨wc, t6, a6, w1, w2, w3⟩, ⟨t7, a7⟩, a8, ⟨t9, a9⟩, ⟨t10, a10⟩, ⟨t11, a11⟩, a12, ⟨t13, a13⟩, a14, a15, ⟨t16, a16⟩, a17, a18, a19⟩ := id hF
  obtain ⟨ln, lt, hln⟩ := hln
  refine wpAny_If ?_
  walk_at "mms"
  rename At _ _ _ _ _ _ => C
  refine ⟨none, [], q, m, ⟨⟨_, C, hF.upd (by decide +kernel), ⟨_, by walk_at "mm lk", rfl⟩, ⟨_, by walk_at "mm lk"⟩, ⟨_, _, by walk_at "mm lk"⟩⟩, m1, m2, trivial⟩, by simp, by rw [rt, hin]⟩
theorem tokWs (C : At O g L m (tokOwn X DX x dx l k mC) s) (G : Gd w g) (R : Rm j A) (hj : j ≤ 80) (hF : ShF x D1 D2 true [] mC) {tS : Tok} (hsv : mC "state" = some (.str (S [32]) tS)) (htk : mC "token" = some (.str (S tk) t21)) (hln : ∃ n t, mC "lineno" = some (.int n t))
    (m1 : m "self" = some (.ref X)) (m2 : m "quoted" = some (.bool q)) (m3 : m "escapedstate" = some (.str (S [esc]) et)) (m5 : m "nextchar" = some (.str (S nc) t20)) (hnc : inp.take 1 = nc) (hin : inp.drop 1 = l.drop k) (hl : tk.length ≤ 1000000) (he : eOk esc) :
    wpAny (Md w) A (exec tokIf (tokEnv L)) (tokOut O g L X DX x dx D1 D2 l k tk.length nc (rt inp (some 32) tk q esc)) E s := by
  obtain ⟨a1, a2, a3, a4, ⟨t5, a5⟩, ⟨wc, t6, a6, w1, w2, w3⟩, ⟨t7, a7⟩, a8, ⟨t9, a9⟩, ⟨t10, a10⟩, ⟨t11, a11⟩, a12, ⟨t13, a13⟩, a14, a15, ⟨t16, a16⟩, a17, a18, a19⟩ := id hF
  obtain ⟨ln, lt, hln⟩ := hln
  have hncl : nc.length ≤ 1 := by rw [← hnc]; simp; lia
  have h1e : ([esc] : List Nat).length ≤ 1 := Nat.le_refl _
  refine wpAny_If ?_
  walk_at "mms"
  refine br (fun _ => ?_) (fun h => absurd rfl h)
  walk_at "mms"
  refine brB (fun hn => ?_) (fun hn => ?_)
  · have hn : nc = [] := by simpa using hn
    have hi : inp = [] := by cases inp with | nil => rfl | cons a b => simp at hnc; rw [hn] at hnc; cases hnc
    walk_at "mms"
    rename At _ _ _ _ _ _ => C
    refine ⟨none, tk, q, _, ⟨⟨_, C, by repeat' (first | exact hF | refine ShF.upd ?_ (by decide +kernel)), ⟨_, by walk_at "mm lk", rfl⟩, ⟨_, by walk_at "mm lk"⟩, ⟨_, _, by walk_at "mm lk"⟩⟩, by walk_at "mm lk", by walk_at "mm lk", trivial⟩, by walk_at "om", by rw [hi, rt, if_pos rfl, ← hin, hi]; rfl⟩
  · obtain ⟨c, r, rfl⟩ : ∃ c r, inp = c :: r := by
      cases inp with
      | nil => exact absurd (by rw [← hnc]; rfl) (Bool.eq_false_iff.mp hn)
      | cons a b => exact ⟨a, b, rfl⟩
    obtain rfl : nc = [c] := hnc.symm
    have hin2 : r = l.drop k := hin
    walk_at "mms"
    refine br (fun h1 => ?_) (fun h1 => ?_)
    · have h1 : c ∈ wsL := h1
      walk_at "mms"
      refine br (fun h => absurd h (by decide)) (fun _ => ?_)
      walk_at "mms"
      refine brB (fun h2 => ?_) (fun h2 => ?_)
      · have h2 : tk ≠ [] := by simpa using h2
        walk_at "mms"
        rename At _ _ _ _ _ _ => C
        refine ⟨some 32, tk, q, _, ⟨⟨_, C, by repeat' (first | exact hF | refine ShF.upd ?_ (by decide +kernel)), ⟨_, by walk_at "mm lk", ⟨_, rfl⟩⟩, ⟨_, by walk_at "mm lk"⟩, ⟨_, _, by walk_at "mm lk"⟩⟩, by walk_at "mm lk", by walk_at "mm lk", .inl rfl⟩, by walk_at "om", by rw [rt, if_pos rfl, if_pos h1, if_pos (.inl h2), hin2]⟩
      · have h2 : tk = [] := by simpa using h2
        walk_at "mms"
        refine brB (fun h3 => ?_) (fun h3 => ?_)
        · walk_at "mms"
          rename At _ _ _ _ _ _ => C
          refine ⟨some 32, tk, q, _, ⟨⟨_, C, by repeat' (first | exact hF | refine ShF.upd ?_ (by decide +kernel)), ⟨_, by walk_at "mm lk", ⟨_, rfl⟩⟩, ⟨_, by walk_at "mm lk"⟩, ⟨_, _, by walk_at "mm lk"⟩⟩, by walk_at "mm lk", by walk_at "mm lk", .inl rfl⟩, by walk_at "om", by rw [rt, if_pos rfl, if_pos h1, if_pos (.inr h3), hin2]⟩
        · walk_at "mms"
          rename At _ _ _ _ _ _ => C
          refine ⟨some 32, tk, q, esc, _, ⟨⟨_, C, by repeat' (first | exact hF | refine ShF.upd ?_ (by decide +kernel)), ⟨_, by walk_at "mm lk", ⟨_, rfl⟩⟩, ⟨_, by walk_at "mm lk"⟩, ⟨_, _, by walk_at "mm lk"⟩⟩, by walk_at "mm lk", by walk_at "mm lk", .inl rfl⟩, ⟨_, by walk_at "mm lk"⟩, he, by walk_at "om", by rw [rt, if_pos rfl, if_pos h1, if_neg (by rintro (e | e); exact e h2; rw [h3] at e; cases e), hin2], by simp⟩
    · have h1 : c ∉ wsL := h1
      walk_at "mms"
      refine br (fun h => absurd h List.not_mem_nil) (fun _ => ?_)
      walk_at "mms"
      refine br (fun h2 => ?_) (fun h2 => ?_)
      · have h2 : c = 92 := by simpa using h2
        subst h2
        walk_at "mms"
        rename At _ _ _ _ _ _ => C
        refine ⟨some 92, tk, q, 97, _, ⟨⟨_, C, by repeat' (first | exact hF | refine ShF.upd ?_ (by decide +kernel)), ⟨_, by walk_at "mm lk", ⟨_, rfl⟩⟩, ⟨_, by walk_at "mm lk"⟩, ⟨_, _, by walk_at "mm lk"⟩⟩, by walk_at "mm lk", by walk_at "mm lk", .inr (.inr (.inr (.inr rfl)))⟩, ⟨_, by walk_at "mm lk"⟩, .inr (.inl rfl), by walk_at "om", by rw [rt, if_pos rfl, if_neg h1, if_pos rfl, hin2], by simp⟩
      · have h2 : c ≠ 92 := by simpa using h2
        walk_at "mms"
        refine br (fun h3 => ?_) (fun h3 => ?_)
        · have h4 : c ∉ qtL := by
            intro q
            simp only [qtL, List.mem_cons, List.not_mem_nil, or_false] at q
            rcases q with rfl | rfl
            · exact w1 h3
            · exact w2 h3
          walk_at "mms"
          rename At _ _ _ _ _ _ => C
          refine ⟨some 97, [c], q, esc, _, ⟨⟨_, C, by repeat' (first | exact hF | refine ShF.upd ?_ (by decide +kernel)), ⟨_, by walk_at "mm lk", ⟨_, rfl⟩⟩, ⟨_, by walk_at "mm lk"⟩, ⟨_, _, by walk_at "mm lk"⟩⟩, by walk_at "mm lk", by walk_at "mm lk", .inr (.inl rfl)⟩, ⟨_, by walk_at "mm lk"⟩, he, by simp, by rw [rt, if_pos rfl, if_neg h1, if_neg h2, if_neg h4, hin2], by simp⟩
        · walk_at "mms"
          rename At _ _ _ _ _ _ => C
          refine propPC C G R (by walk_at "om") (.head _) (.tail _ (.head _)) a16 rfl ?_
          clear C
          intro s3 C3
          walk_at "mms"
          refine br (fun h => absurd h List.not_mem_nil) (fun _ => ?_)
          walk_at "mms"
          refine br (fun h4 => ?_) (fun h4 => ?_)
          · have h4 : c ∈ qtL := h4
            walk_at "mms"
            rename At _ _ _ _ _ _ => C
            refine ⟨some c, tk, q, esc, _, ⟨⟨_, C, by repeat' (first | exact hF | refine ShF.upd ?_ (by decide +kernel)), ⟨_, by walk_at "mm lk", ⟨_, rfl⟩⟩, ⟨_, by walk_at "mm lk"⟩, ⟨_, _, by walk_at "mm lk"⟩⟩, by walk_at "mm lk", by walk_at "mm lk", by simp only [qtL, List.mem_cons, List.not_mem_nil, or_false] at h4; unfold okS; lia⟩, ⟨_, by walk_at "mm lk"⟩, he, by walk_at "om", by rw [rt, if_pos rfl, if_neg h1, if_neg h2, if_pos h4, hin2], by simp⟩
          · have h4 : c ∉ qtL := h4
            walk_at "mms"
            rename At _ _ _ _ _ _ => C
            refine ⟨some 97, [c], q, esc, _, ⟨⟨_, C, by repeat' (first | exact hF | refine ShF.upd ?_ (by decide +kernel)), ⟨_, by walk_at "mm lk", ⟨_, rfl⟩⟩, ⟨_, by walk_at "mm lk"⟩, ⟨_, _, by walk_at "mm lk"⟩⟩, by walk_at "mm lk", by walk_at "mm lk", .inr (.inl rfl)⟩, ⟨_, by walk_at "mm lk"⟩, he, by simp, by rw [rt, if_pos rfl, if_neg h1, if_neg h2, if_neg h4, hin2], by simp⟩
end
end
-- MTokE
section
section
variable {w : World} {A : Around} {E : Value → Shared → Prop} {O : OsState} {g : Heap} {L X DX x dx D1 D2 : Addr} {s : Shared} {l : List Nat} {k j : Nat} {tk nc : List Nat} {q : Bool} {esc : Nat} {m mC : Str → Option Value} {et t20 t21 : Tok} {inp : List Nat}
theorem tokQt {sc : Nat} (C : At O g L m (tokOwn X DX x dx l k mC) s) (G : Gd w g) (R : Rm j A) (hj : j ≤ 80) (hF : ShF x D1 D2 true [] mC) {tS : Tok} (hsc : sc = 39 ∨ sc = 34) (hsv : mC "state" = some (.str (S [sc]) tS)) (htk : mC "token" = some (.str (S tk) t21)) (hln : ∃ n t, mC "lineno" = some (.int n t))
    (m1 : m "self" = some (.ref X)) (m2 : m "quoted" = some (.bool q)) (m3 : m "escapedstate" = some (.str (S [esc]) et)) (m5 : m "nextchar" = some (.str (S nc) t20)) (hnc : inp.take 1 = nc) (hin : inp.drop 1 = l.drop k) (hl : tk.length ≤ 1000000) (he : eOk esc) (hE : TokErr O g L X DX x dx l k (rt inp (some sc) tk q esc) E) :
    wpAny (Md w) A (exec tokIf (tokEnv L)) (tokOut O g L X DX x dx D1 D2 l k tk.length nc (rt inp (some sc) tk q esc)) E s := by
  obtain ⟨a1, a2, a3, a4, ⟨t5, a5⟩, ⟨wc, t6, a6, w1, w2, w3⟩, ⟨t7, a7⟩, a8, ⟨t9, a9⟩, ⟨t10, a10⟩, ⟨t11, a11⟩, a12, ⟨t13, a13⟩, a14, a15, ⟨t16, a16⟩, a17, a18, a19⟩ := id hF
  obtain ⟨ln, lt, hln⟩ := hln
  have hncl : nc.length ≤ 1 := by rw [← hnc]; simp; lia
  have h1e : ([esc] : List Nat).length ≤ 1 := Nat.le_refl _
  refine wpAny_If ?_
  walk_at "mms"
  refine br (fun h => absurd h (by simp; lia)) (fun _ => ?_)
  walk_at "mms"
  have hs32 : sc ≠ 32 := by lia
  have hsq : sc ∈ qtL := by rcases hsc with rfl | rfl <;> decide
  refine br (fun _ => ?_) (fun h => absurd hsq h)
  walk_at "mms"
  refine brB (fun hn => ?_) (fun hn => ?_)
  · have hn : nc = [] := by simpa using hn
    have hi : inp = [] := by cases inp with | nil => rfl | cons a b => simp at hnc; rw [hn] at hnc; cases hnc
    walk_at "mms"
    refine br (fun h => absurd h (by decide)) (fun _ => ?_)
    walk_at "mms"
    refine wpAny_Raise_made PySem.F.excRaise_ValueError R.handled ?_
    walk_at "mms"
    rename At _ _ _ _ _ _ => C
    refine callVE C ?_
    intro e t s5 C5 n1 n2 e1 e2 _
    exact ⟨e, t, rfl, e1, hE e t _ _ _ _ ncq C5 (none_of_keeps C.keep n1) (none_of_keeps C.keep n2) e1 e2 (by rw [hi, rt, if_neg hs32, if_pos hsq])⟩
  · obtain ⟨c, r, rfl⟩ : ∃ c r, inp = c :: r := by
      cases inp with
      | nil => exact absurd (by rw [← hnc]; rfl) (Bool.eq_false_iff.mp hn)
      | cons a b => exact ⟨a, b, rfl⟩
    obtain rfl : nc = [c] := hnc.symm
    have hin2 : r = l.drop k := hin
    walk_at "mms"
    refine br (fun h1 => ?_) (fun h1 => ?_)
    · have h1 : c = sc := by simpa using h1
      walk_at "mms"
      rename At _ _ _ _ _ _ => C
      refine ⟨some 97, tk, true, esc, _, ⟨⟨_, C, by repeat' (first | exact hF | refine ShF.upd ?_ (by decide +kernel)), ⟨_, by walk_at "mm lk", ⟨_, rfl⟩⟩, ⟨_, by walk_at "mm lk"⟩, ⟨_, _, by walk_at "mm lk"⟩⟩, by walk_at "mm lk", by walk_at "mm lk", .inr (.inl rfl)⟩, ⟨_, by walk_at "mm lk"⟩, he, by walk_at "om", by rw [rt, if_neg hs32, if_pos hsq, if_pos h1, hin2], by simp⟩
    · have h1 : c ≠ sc := by simpa using h1
      walk_at "mms"
      refine br (fun h2 => ?_) (fun h2 => ?_)
      · have h2 : c = 92 := by simpa using h2
        walk_at "mms"
        refine br (fun h3 => ?_) (fun h3 => ?_)
        · have h3 : sc = 34 := by simpa using h3
          walk_at "mms"
          rename At _ _ _ _ _ _ => C
          refine ⟨some 92, tk, true, sc, _, ⟨⟨_, C, by repeat' (first | exact hF | refine ShF.upd ?_ (by decide +kernel)), ⟨_, by walk_at "mm lk", ⟨_, by rw [h2]⟩⟩, ⟨_, by walk_at "mm lk"⟩, ⟨_, _, by walk_at "mm lk"⟩⟩, by walk_at "mm lk", by walk_at "mm lk", .inr (.inr (.inr (.inr rfl)))⟩, ⟨_, by walk_at "mm lk"⟩, .inr (.inr h3), by walk_at "om", by rw [rt, if_neg hs32, if_pos hsq, if_neg h1, if_pos ⟨h2, h3⟩, hin2], by simp⟩
        · have h3 : sc ≠ 34 := by simpa using h3
          walk_at "mms"
          rename At _ _ _ _ _ _ => C
          refine ⟨some sc, tk ++ [c], true, esc, _, ⟨⟨_, C, by repeat' (first | exact hF | refine ShF.upd ?_ (by decide +kernel)), ⟨_, by walk_at "mm lk", ⟨_, rfl⟩⟩, ⟨_, by walk_at "mm lk"⟩, ⟨_, _, by walk_at "mm lk"⟩⟩, by walk_at "mm lk", by walk_at "mm lk", by unfold okS; lia⟩, ⟨_, by walk_at "mm lk"⟩, he, by simp only [List.length_append, List.length_cons, List.length_nil]; lia, by rw [rt, if_neg hs32, if_pos hsq, if_neg h1, if_neg (fun q => h3 q.2), hin2], by simp⟩
      · have h2 : c ≠ 92 := by simpa using h2
        walk_at "mms"
        rename At _ _ _ _ _ _ => C
        refine ⟨some sc, tk ++ [c], true, esc, _, ⟨⟨_, C, by repeat' (first | exact hF | refine ShF.upd ?_ (by decide +kernel)), ⟨_, by walk_at "mm lk", ⟨_, rfl⟩⟩, ⟨_, by walk_at "mm lk"⟩, ⟨_, _, by walk_at "mm lk"⟩⟩, by walk_at "mm lk", by walk_at "mm lk", by unfold okS; lia⟩, ⟨_, by walk_at "mm lk"⟩, he, by simp only [List.length_append, List.length_cons, List.length_nil]; lia, by rw [rt, if_neg hs32, if_pos hsq, if_neg h1, if_neg (fun q => h2 q.1), hin2], by simp⟩
end
end
-- MTokF
section
section
variable {w : World} {A : Around} {E : Value → Shared → Prop} {O : OsState} {g : Heap} {L X DX x dx D1 D2 : Addr} {s : Shared} {l : List Nat} {k j : Nat} {tk nc : List Nat} {q : Bool} {esc : Nat} {m mC : Str → Option Value} {et t20 t21 : Tok} {inp : List Nat}
theorem tokEs (C : At O g L m (tokOwn X DX x dx l k mC) s) (G : Gd w g) (R : Rm j A) (hj : j ≤ 80) (hF : ShF x D1 D2 true [] mC) {tS : Tok} (hsv : mC "state" = some (.str (S [92]) tS)) (htk : mC "token" = some (.str (S tk) t21)) (hln : ∃ n t, mC "lineno" = some (.int n t))
    (m1 : m "self" = some (.ref X)) (m2 : m "quoted" = some (.bool q)) (m3 : m "escapedstate" = some (.str (S [esc]) et)) (m5 : m "nextchar" = some (.str (S nc) t20)) (hnc : inp.take 1 = nc) (hin : inp.drop 1 = l.drop k) (hl : tk.length ≤ 1000000) (he : eOk esc) (hE : TokErr O g L X DX x dx l k (rt inp (some 92) tk q esc) E) :
    wpAny (Md w) A (exec tokIf (tokEnv L)) (tokOut O g L X DX x dx D1 D2 l k tk.length nc (rt inp (some 92) tk q esc)) E s := by
  obtain ⟨a1, a2, a3, a4, ⟨t5, a5⟩, ⟨wc, t6, a6, w1, w2, w3⟩, ⟨t7, a7⟩, a8, ⟨t9, a9⟩, ⟨t10, a10⟩, ⟨t11, a11⟩, a12, ⟨t13, a13⟩, a14, a15, ⟨t16, a16⟩, a17, a18, a19⟩ := id hF
  obtain ⟨ln, lt, hln⟩ := hln
  have hncl : nc.length ≤ 1 := by rw [← hnc]; simp; lia
  have h1e : ([esc] : List Nat).length ≤ 1 := Nat.le_refl _
  refine wpAny_If ?_
  walk_at "mms"
  refine br (fun h => absurd h (by decide)) (fun _ => ?_)
  walk_at "mms"
  refine br (fun h => absurd h (by decide)) (fun _ => ?_)
  walk_at "mms"
  refine br (fun _ => ?_) (fun h => absurd (.head _) h)
  walk_at "mms"
  have hok : okS (some esc) := by rcases he with rfl | rfl | rfl <;> unfold okS <;> simp
  refine brB (fun hn => ?_) (fun hn => ?_)
  · have hn : nc = [] := by simpa using hn
    have hi : inp = [] := by cases inp with | nil => rfl | cons a b => simp at hnc; rw [hn] at hnc; cases hnc
    walk_at "mms"
    refine br (fun h => absurd h (by decide)) (fun _ => ?_)
    walk_at "mms"
    refine wpAny_Raise_made PySem.F.excRaise_ValueError R.handled ?_
    walk_at "mms"
    rename At _ _ _ _ _ _ => C
    refine callVE C ?_
    intro e t s5 C5 n1 n2 e1 e2 _
    exact ⟨e, t, rfl, e1, hE e t _ _ _ _ nec C5 (none_of_keeps C.keep n1) (none_of_keeps C.keep n2) e1 e2 (by rw [hi, rt, if_neg (by decide), if_neg (by decide), if_pos rfl])⟩
  · obtain ⟨c, r, rfl⟩ : ∃ c r, inp = c :: r := by
      cases inp with
      | nil => exact absurd (by rw [← hnc]; rfl) (Bool.eq_false_iff.mp hn)
      | cons a b => exact ⟨a, b, rfl⟩
    obtain rfl : nc = [c] := hnc.symm
    have hin2 : r = l.drop k := hin
    walk_at "mms"
    refine br (fun h1 => ?_) (fun h1 => ?_)
    · have h1 : esc ∈ qtL := h1
      walk_at "mms"
      refine brB (fun h2 => ?_) (fun h2 => ?_)
      · have h2 : c ≠ 92 := by simpa using h2
        walk_at "mms"
        refine brB (fun h3 => ?_) (fun h3 => ?_)
        · have h3 : c ≠ esc := by simpa using h3
          walk_at "mms"
          rename At _ _ _ _ _ _ => C
          refine ⟨some esc, tk ++ [92] ++ [c], q, esc, _, ⟨⟨_, C, by repeat' (first | exact hF | refine ShF.upd ?_ (by decide +kernel)), ⟨_, by walk_at "mm lk", ⟨_, rfl⟩⟩, ⟨_, by walk_at "mm lk"⟩, ⟨_, _, by walk_at "mm lk"⟩⟩, by walk_at "mm lk", by walk_at "mm lk", hok⟩, ⟨_, by walk_at "mm lk"⟩, he, by simp only [List.length_append, List.length_cons, List.length_nil]; lia, by rw [rt, if_neg (by decide), if_neg (by decide), if_pos rfl, if_pos ⟨h1, h2, h3⟩, hin2], by simp⟩
        · have h3 : c = esc := by simpa using h3
          walk_at "mms"
          rename At _ _ _ _ _ _ => C
          refine ⟨some esc, tk ++ [c], q, esc, _, ⟨⟨_, C, by repeat' (first | exact hF | refine ShF.upd ?_ (by decide +kernel)), ⟨_, by walk_at "mm lk", ⟨_, rfl⟩⟩, ⟨_, by walk_at "mm lk"⟩, ⟨_, _, by walk_at "mm lk"⟩⟩, by walk_at "mm lk", by walk_at "mm lk", hok⟩, ⟨_, by walk_at "mm lk"⟩, he, by simp only [List.length_append, List.length_cons, List.length_nil]; lia, by rw [rt, if_neg (by decide), if_neg (by decide), if_pos rfl, if_neg (fun q => q.2.2 h3), hin2], by simp⟩
      · have h2 : c = 92 := by simpa using h2
        walk_at "mms"
        rename At _ _ _ _ _ _ => C
        refine ⟨some esc, tk ++ [c], q, esc, _, ⟨⟨_, C, by repeat' (first | exact hF | refine ShF.upd ?_ (by decide +kernel)), ⟨_, by walk_at "mm lk", ⟨_, rfl⟩⟩, ⟨_, by walk_at "mm lk"⟩, ⟨_, _, by walk_at "mm lk"⟩⟩, by walk_at "mm lk", by walk_at "mm lk", hok⟩, ⟨_, by walk_at "mm lk"⟩, he, by simp only [List.length_append, List.length_cons, List.length_nil]; lia, by rw [rt, if_neg (by decide), if_neg (by decide), if_pos rfl, if_neg (fun q => q.2.1 h2), hin2], by simp⟩
    · have h1 : esc ∉ qtL := h1
      walk_at "mms"
      rename At _ _ _ _ _ _ => C
      refine ⟨some esc, tk ++ [c], q, esc, _, ⟨⟨_, C, by repeat' (first | exact hF | refine ShF.upd ?_ (by decide +kernel)), ⟨_, by walk_at "mm lk", ⟨_, rfl⟩⟩, ⟨_, by walk_at "mm lk"⟩, ⟨_, _, by walk_at "mm lk"⟩⟩, by walk_at "mm lk", by walk_at "mm lk", hok⟩, ⟨_, by walk_at "mm lk"⟩, he, by simp only [List.length_append, List.length_cons, List.length_nil]; lia, by rw [rt, if_neg (by decide), if_neg (by decide), if_pos rfl, if_neg (fun q => h1 q.1), hin2], by simp⟩
end
end
-- MTokG
section
section
variable {w : World} {A : Around} {E : Value → Shared → Prop} {O : OsState} {g : Heap} {L X DX x dx D1 D2 : Addr} {s : Shared} {l : List Nat} {k j : Nat} {tk nc : List Nat} {q : Bool} {esc : Nat} {m mC : Str → Option Value} {et t20 t21 : Tok} {inp : List Nat}
theorem tokA (C : At O g L m (tokOwn X DX x dx l k mC) s) (G : Gd w g) (R : Rm j A) (hj : j ≤ 80) (hF : ShF x D1 D2 true [] mC) {tS : Tok} (hsv : mC "state" = some (.str (S [97]) tS)) (htk : mC "token" = some (.str (S tk) t21)) (hln : ∃ n t, mC "lineno" = some (.int n t))
    (m1 : m "self" = some (.ref X)) (m2 : m "quoted" = some (.bool q)) (m3 : m "escapedstate" = some (.str (S [esc]) et)) (m5 : m "nextchar" = some (.str (S nc) t20)) (hnc : inp.take 1 = nc) (hin : inp.drop 1 = l.drop k) (hl : tk.length ≤ 1000000) (he : eOk esc) :
    wpAny (Md w) A (exec tokIf (tokEnv L)) (tokOut O g L X DX x dx D1 D2 l k tk.length nc (rt inp (some 97) tk q esc)) E s := by
  obtain ⟨a1, a2, a3, a4, ⟨t5, a5⟩, ⟨wc, t6, a6, w1, w2, w3⟩, ⟨t7, a7⟩, a8, ⟨t9, a9⟩, ⟨t10, a10⟩, ⟨t11, a11⟩, a12, ⟨t13, a13⟩, a14, a15, ⟨t16, a16⟩, a17, a18, a19⟩ := id hF
  obtain ⟨ln, lt, hln⟩ := hln
  have hncl : nc.length ≤ 1 := by rw [← hnc]; simp; lia
  have h1e : ([esc] : List Nat).length ≤ 1 := Nat.le_refl _
  refine wpAny_If ?_
  walk_at "mms"
  refine br (fun h => absurd h (by decide)) (fun _ => ?_)
  walk_at "mms"
  refine br (fun h => absurd h (by decide)) (fun _ => ?_)
  walk_at "mms"
  refine br (fun h => absurd h (by decide)) (fun _ => ?_)
  walk_at "mms"
  refine brB (fun _ => ?_) (fun h => absurd h (by decide))
  walk_at "mms"
  refine brB (fun hn => ?_) (fun hn => ?_)
  · have hn : nc = [] := by simpa using hn
    have hi : inp = [] := by cases inp with | nil => rfl | cons a b => simp at hnc; rw [hn] at hnc; cases hnc
    walk_at "mms"
    rename At _ _ _ _ _ _ => C
    refine ⟨none, tk, q, _, ⟨⟨_, C.drop (List.Sublist.cons _ (List.Sublist.refl _)), by repeat' (first | exact hF | refine ShF.upd ?_ (by decide +kernel)), ⟨_, by walk_at "mm lk", rfl⟩, ⟨_, by walk_at "mm lk"⟩, ⟨_, _, by walk_at "mm lk"⟩⟩, by walk_at "mm lk", by walk_at "mm lk", trivial⟩, by walk_at "om", by rw [hi, rt, if_neg (by decide), if_neg (by decide), if_neg (by decide), ← hin, hi]; rfl⟩
  · obtain ⟨c, r, rfl⟩ : ∃ c r, inp = c :: r := by
      cases inp with
      | nil => exact absurd (by rw [← hnc]; rfl) (Bool.eq_false_iff.mp hn)
      | cons a b => exact ⟨a, b, rfl⟩
    obtain rfl : nc = [c] := hnc.symm
    have hin2 : r = l.drop k := hin
    walk_at "mms"
    refine br (fun h1 => ?_) (fun h1 => ?_)
    · have h1 : c ∈ wsL := h1
      walk_at "mms"
      refine br (fun h => absurd h (by decide)) (fun _ => ?_)
      walk_at "mms"
      refine brB (fun h2 => ?_) (fun h2 => ?_)
      · have h2 : tk ≠ [] := by simpa using h2
        walk_at "mms"
        rename At _ _ _ _ _ _ => C
        refine ⟨some 32, tk, q, _, ⟨⟨_, C.drop (List.Sublist.cons _ (List.Sublist.refl _)), by repeat' (first | exact hF | refine ShF.upd ?_ (by decide +kernel)), ⟨_, by walk_at "mm lk", ⟨_, rfl⟩⟩, ⟨_, by walk_at "mm lk"⟩, ⟨_, _, by walk_at "mm lk"⟩⟩, by walk_at "mm lk", by walk_at "mm lk", .inl rfl⟩, by walk_at "om", by rw [rt, if_neg (show ¬ (97 : Nat) = 32 by decide), if_neg (show (97 : Nat) ∉ qtL by decide), if_neg (show ¬ (97 : Nat) = 92 by decide), if_pos h1, if_pos (.inl h2), hin2]⟩
      · have h2 : tk = [] := by simpa using h2
        walk_at "mms"
        refine brB (fun h3 => ?_) (fun h3 => ?_)
        · walk_at "mms"
          rename At _ _ _ _ _ _ => C
          refine ⟨some 32, tk, q, _, ⟨⟨_, C.drop (List.Sublist.cons _ (List.Sublist.refl _)), by repeat' (first | exact hF | refine ShF.upd ?_ (by decide +kernel)), ⟨_, by walk_at "mm lk", ⟨_, rfl⟩⟩, ⟨_, by walk_at "mm lk"⟩, ⟨_, _, by walk_at "mm lk"⟩⟩, by walk_at "mm lk", by walk_at "mm lk", .inl rfl⟩, by walk_at "om", by rw [rt, if_neg (show ¬ (97 : Nat) = 32 by decide), if_neg (show (97 : Nat) ∉ qtL by decide), if_neg (show ¬ (97 : Nat) = 92 by decide), if_pos h1, if_pos (.inr h3), hin2]⟩
        · walk_at "mms"
          rename At _ _ _ _ _ _ => C
          refine ⟨some 32, tk, q, esc, _, ⟨⟨_, C.drop (List.Sublist.cons _ (List.Sublist.refl _)), by repeat' (first | exact hF | refine ShF.upd ?_ (by decide +kernel)), ⟨_, by walk_at "mm lk", ⟨_, rfl⟩⟩, ⟨_, by walk_at "mm lk"⟩, ⟨_, _, by walk_at "mm lk"⟩⟩, by walk_at "mm lk", by walk_at "mm lk", .inl rfl⟩, ⟨_, by walk_at "mm lk"⟩, he, by walk_at "om", by rw [rt, if_neg (show ¬ (97 : Nat) = 32 by decide), if_neg (show (97 : Nat) ∉ qtL by decide), if_neg (show ¬ (97 : Nat) = 92 by decide), if_pos h1, if_neg (by rintro (e | e); exact e h2; rw [h3] at e; cases e), hin2], by simp⟩
    · have h1 : c ∉ wsL := h1
      walk_at "mms"
      refine br (fun h => absurd h List.not_mem_nil) (fun _ => ?_)
      walk_at "mms"
      refine br (fun h => absurd h (by decide)) (fun _ => ?_)
      walk_at "mms"
      refine br (fun h2 => ?_) (fun h2 => ?_)
      · have h2 : c ∈ qtL := h2
        walk_at "mms"
        rename At _ _ _ _ _ _ => C
        refine ⟨some c, tk, q, esc, _, ⟨⟨_, C.drop (List.Sublist.cons _ (List.Sublist.refl _)), by repeat' (first | exact hF | refine ShF.upd ?_ (by decide +kernel)), ⟨_, by walk_at "mm lk", ⟨_, rfl⟩⟩, ⟨_, by walk_at "mm lk"⟩, ⟨_, _, by walk_at "mm lk"⟩⟩, by walk_at "mm lk", by walk_at "mm lk", by simp only [qtL, List.mem_cons, List.not_mem_nil, or_false] at h2; unfold okS; lia⟩, ⟨_, by walk_at "mm lk"⟩, he, by walk_at "om", by rw [rt, if_neg (show ¬ (97 : Nat) = 32 by decide), if_neg (show (97 : Nat) ∉ qtL by decide), if_neg (show ¬ (97 : Nat) = 92 by decide), if_neg h1, if_pos h2, hin2], by simp⟩
      · have h2 : c ∉ qtL := h2
        walk_at "mms"
        refine br (fun h3 => ?_) (fun h3 => ?_)
        · have h3 : c = 92 := by simpa using h3
          subst h3
          walk_at "mms"
          rename At _ _ _ _ _ _ => C
          refine ⟨some 92, tk, q, 97, _, ⟨⟨_, C.drop (List.Sublist.cons _ (List.Sublist.refl _)), by repeat' (first | exact hF | refine ShF.upd ?_ (by decide +kernel)), ⟨_, by walk_at "mm lk", ⟨_, rfl⟩⟩, ⟨_, by walk_at "mm lk"⟩, ⟨_, _, by walk_at "mm lk"⟩⟩, by walk_at "mm lk", by walk_at "mm lk", .inr (.inr (.inr (.inr rfl)))⟩, ⟨_, by walk_at "mm lk"⟩, .inr (.inl rfl), by walk_at "om", by rw [rt, if_neg (show ¬ (97 : Nat) = 32 by decide), if_neg (show (97 : Nat) ∉ qtL by decide), if_neg (show ¬ (97 : Nat) = 92 by decide), if_neg h1, if_neg h2, if_pos rfl, hin2], by simp⟩
        · have h3 : c ≠ 92 := by simpa using h3
          walk_at "mms"
          refine br (fun h4 => ?_) (fun h4 => ?_)
          · walk_at "mms"
            rename At _ _ _ _ _ _ => C
            refine ⟨some 97, tk ++ [c], q, esc, _, ⟨⟨_, C.drop (List.Sublist.cons _ (List.Sublist.refl _)), by repeat' (first | exact hF | refine ShF.upd ?_ (by decide +kernel)), ⟨_, by walk_at "mm lk", ⟨_, rfl⟩⟩, ⟨_, by walk_at "mm lk"⟩, ⟨_, _, by walk_at "mm lk"⟩⟩, by walk_at "mm lk", by walk_at "mm lk", .inr (.inl rfl)⟩, ⟨_, by walk_at "mm lk"⟩, he, by simp only [List.length_append, List.length_cons, List.length_nil]; lia, by rw [rt, if_neg (show ¬ (97 : Nat) = 32 by decide), if_neg (show (97 : Nat) ∉ qtL by decide), if_neg (show ¬ (97 : Nat) = 92 by decide), if_neg h1, if_neg h2, if_neg h3, hin2], by simp⟩
          · walk_at "mms"
            refine br (fun h => absurd h h2) (fun _ => ?_)
            walk_at "mms"
            rename At _ _ _ _ _ _ => C
            refine propPC C G R (by walk_at "om") (.tail _ (.head _)) (.tail _ (.tail _ (.head _))) a16 rfl ?_
            clear C
            intro s3 C3
            walk_at "mms"
            refine brB (fun _ => ?_) (fun h => absurd h (by simp))
            walk_at "mms"
            rename At _ _ _ _ _ _ => C
            refine ⟨some 97, tk ++ [c], q, esc, _, ⟨⟨_, C.drop (List.Sublist.cons _ (List.Sublist.refl _)), by repeat' (first | exact hF | refine ShF.upd ?_ (by decide +kernel)), ⟨_, by walk_at "mm lk", ⟨_, rfl⟩⟩, ⟨_, by walk_at "mm lk"⟩, ⟨_, _, by walk_at "mm lk"⟩⟩, by walk_at "mm lk", by walk_at "mm lk", .inr (.inl rfl)⟩, ⟨_, by walk_at "mm lk"⟩, he, by simp only [List.length_append, List.length_cons, List.length_nil]; lia, by rw [rt, if_neg (show ¬ (97 : Nat) = 32 by decide), if_neg (show (97 : Nat) ∉ qtL by decide), if_neg (show ¬ (97 : Nat) = 92 by decide), if_neg h1, if_neg h2, if_neg h3, hin2], by simp⟩
end
end
-- MTok3
section
noncomputable def TokOut (r : TokR) (v : Value) (st : Option Nat) (rest : List Nat) : Prop := ∃ tk q, r = .tok tk q rest st ∧ (if q = false ∧ tk = [] then v = .none else SV v tk)
theorem whileCut {M : Model} {A : Around} {c : Code} {s : Shared} {R : Result → Shared → Prop} (PB : Shared → Prop) (h : codeAny M A c (fun r s' => match r with | .ok .next => PB s' | .error e => R (.error e) s' | .ok _ => False) s) (t : ∀ s', PB s' → R (.ok .next) s') : codeAny M A c R s :=
  codeAny_mono h fun r s' z => by
    rcases r with e | (_ | _ | _ | _) <;> first | exact z | exact t _ z | exact z.elim
noncomputable def tokInv (O : OsState) (g0 : Heap) (L X DX x dx D1 D2 : Addr) (l : List Nat) (r : TokR) (n : Nat) (g : Heap) (m : Str → Option Value) (own : Own) : Prop :=
  ∃ k2 st2 tk q esc mB, n = l.length + 1 - k2 ∧ g = g0 ∧ k2 ≤ l.length ∧ own = tokOwn X DX x dx l k2 mB ∧ ShF x D1 D2 true [] mB ∧ (∃ v, mB "state" = some v ∧ stV st2 v) ∧ (∃ t, mB "token" = some (.str (S tk) t)) ∧ (∃ n t, mB "lineno" = some (.int n t)) ∧
    m "self" = some (.ref X) ∧ m "quoted" = some (.bool q) ∧ (∃ t, m "escapedstate" = some (.str (S [esc]) t)) ∧ okS st2 ∧ eOk esc ∧ tk.length ≤ 2 * k2 ∧ r = rt (l.drop k2) st2 tk q esc
noncomputable def tokEnd (O : OsState) (g : Heap) (L X DX x dx D1 D2 : Addr) (l : List Nat) (r : TokR) (s' : Shared) : Prop :=
  ∃ k3 st3 tk3 q3 m3, k3 ≤ l.length ∧ TokSt O g L X DX x dx D1 D2 l k3 st3 tk3 q3 m3 s' ∧ tk3.length ≤ 2 * l.length + 2 ∧ r = .tok tk3 q3 (l.drop k3) st3
inductive TkA (O : OsState) (g0 : Heap) (L X DX x dx D1 D2 : Addr) (l : List Nat) (k : Nat) (sv : Value) (tk : List Nat) (q : Bool) (esc : Nat) (et : Tok) (nc : List Nat) (fl : Flow) (s' : Shared) : Prop
  | mk (hf : fl = .next) (mC m4 : Str → Option Value) (t20 t21 : Tok) (C : At O g0 L m4 (tokOwn X DX x dx l k mC) s') (hF : ShF x D1 D2 true [] mC) (h1 : mC "state" = some sv) (h2 : mC "token" = some (.str (S tk) t21)) (h3 : ∃ n t, mC "lineno" = some (.int n t))
    (m1 : m4 "self" = some (.ref X)) (m2 : m4 "quoted" = some (.bool q)) (m3 : m4 "escapedstate" = some (.str (S [esc]) et)) (m5 : m4 "nextchar" = some (.str (S nc) t20))
theorem spTok {w : World} {A : Around} {E : Value → Shared → Prop} {s : Shared} {X DX x dx D1 D2 : Addr} {l : List Nat} {k : Nat} {st : Option Nat} {j : Nat} {Q : Value → Shared → Prop} (G : Gd w (dropA s.heap [X, DX, x, dx])) (G0 : Gd w s.heap) (R : Rm j A) (hj : j ≤ 60) (hg : s.gens = #[])
    (hX : ∃ o, s.heap.get? X = some o ∧ instP 765 DX o) (hDX : ∃ o, s.heap.get? DX = some o ∧ shP x D1 D2 st o) (hx : ∃ o, s.heap.get? x = some o ∧ instP 630 dx o) (hdx : ∃ o, s.heap.get? dx = some o ∧ sioP l k o) (hnd : [X, DX, x, dx].Nodup) (hk : k ≤ l.length) (hl : l.length ≤ 400000) (hst : okS st)
    (hFr : ∀ l0, A.frames = some l0 → FrH l0 [X, DX, x, dx] s.heap)
    (h : ∀ v st' k' (s' : Shared), KeepsBut [DX, dx] s.heap s'.heap → s'.os = s.os → s'.gens = #[] → (∃ o, s'.heap.get? DX = some o ∧ shP x D1 D2 st' o) → (∃ o, s'.heap.get? dx = some o ∧ sioP l k' o) → k' ≤ l.length → okS st' → TokOut (rt (l.drop k) st [] false 32) v st' (l.drop k') → Q v s')
    (hE : ∀ l0 e s' msg, A.frames = some l0 → rt (l.drop k) st [] false 32 = .bad msg → ErrR l0 [X, DX, x, dx] msg s s' e → E e s') :
    wpAny (Md w) A (call (.ref 733) [.ref X]) Q E s := by
  obtain ⟨oDX, hoDX, mA, hmA, hF, ⟨sv, hsv, hstv⟩, ⟨tt, htk⟩, ⟨ln, lt, hln⟩⟩ := hDX
  obtain ⟨l0, hl0⟩ := R.frames
  refine wpAny_call (codeKv (binds := [("self", .ref X)]) G0 R (by walk_at "om") (lk733 w) (cd733 w) (BindsTo.of_eq rfl) rfl (by kernel_rfl) rfl rfl rfl hg [(X, instP 765 DX), (DX, nsP shKs mA), (x, instP 630 dx), (dx, sioP l k)] (by simp; exact ⟨hX, ⟨oDX, hoDX, hmA⟩, hx, hdx⟩) (by simpa using hnd) ?_)
  intro L s' C
  change At s.os (dropA s.heap [X, DX, x, dx]) L _ (tokOwn X DX x dx l k mA) s' at C
  have R' := R.deeper (envOf "shlex.read_token" (fnScope (clsAt PG 29 6)) L 733 (.ref 732))
  generalize hr0 : rt (l.drop k) st [] false 32 = r0 at h hE
  generalize hg0 : dropA s.heap [X, DX, x, dx] = g0 at G C
  walk_at "hq"
  refine wpAny_execs_cons ?_
  walk_at "mms"
  rename At _ _ _ _ _ _ => C
  refine wpAny_While ?_
  obtain ⟨PE, hPE⟩ : ∃ P, P = tokEnd s.os g0 L X DX x dx D1 D2 l r0 := ⟨_, rfl⟩
  obtain ⟨I, hI⟩ : ∃ I, I = tokInv s.os g0 L X DX x dx D1 D2 l r0 := ⟨_, rfl⟩
  refine whileCut PE ?_ ?_
  · refine whileR I ?_ (l.length + 1 - k) ?_ C
    · rintro n g m own s2 hII C2
      obtain ⟨k2, st2, tk, q, esc, mB, rfl, hgg, hk2, rfl, hF2, ⟨sv2, hsv2, hstv2⟩, ⟨tt2, htk2⟩, ⟨ln2, lt2, hln2⟩, m1, m2, ⟨et, m3⟩, hok, hesc, htl, hrt⟩ : tokInv s.os g0 L X DX x dx D1 D2 l r0 n g m own := hI ▸ hII
      subst g
      clear C
      walk_at "hw"
      obtain ⟨a1, a2, a3, a4, ⟨t5, a5⟩, ⟨wc, t6, a6, w1, w2, w3⟩, ⟨t7, a7⟩, a8, ⟨t9, a9⟩, ⟨t10, a10⟩, ⟨t11, a11⟩, a12, ⟨t13, a13⟩, a14, a15, ⟨t16, a16⟩, a17, a18, a19⟩ := id hF2
      walk_at "mms"
      rename At _ _ _ _ _ _ => C
      refine propPC C G R' (by walk_at "om") (.head _) (.tail _ (.head _)) a16 rfl ?_
      clear C
      intro s3 C3
      walk_at "mms"
      refine brB (fun h => absurd h (by decide)) (fun _ => ?_)
      walk_at "mms"
      rename At _ _ _ _ _ _ => C
      refine methRead C G (.tail _ (.tail _ (.head _))) (.tail _ (.tail _ (.tail _ (.head _)))) ?_
      dsimp only
      walk_at "mms"
      rename At _ _ _ _ _ _ => C
      have nx : ∀ a ∈ [x, dx], g0.get? a = none := by
        intro a ha
        simp only [List.mem_cons, List.not_mem_nil, or_false] at ha
        rcases ha with rfl | rfl
        · exact (C.gown _ (.tail _ (.tail _ (.head _)))).1
        · exact (C.gown _ (.tail _ (.tail _ (.tail _ (.head _))))).1
      have hxd : x ≠ dx := by simp at hnd; exact hnd.2.2
      refine spRead (G.keeps (keepsDrop C.keep nx)) (C.gd G) R' (by walk_at "om") C.gens (C.get (.tail _ (.tail _ (.head _)))) (C.get (.tail _ (.tail _ (.tail _ (.head _))))) hxd hk2 (by walk_at "om") ?_
      intro tn s5 k5 o5 g5 d5
      have C5 := C.growBut (P' := sioP l (min (k2 + 1) l.length)) (.tail (.tail (.tail .head))) k5 d5 o5 (g5.trans C.gens.symm)
      clear C
      generalize hnc : (l.drop k2).take 1 = nc
      have hncl : nc.length ≤ 1 := by rw [← hnc]; simp; lia
      walk_at "mm"
      walk_at "mm"
      walk_at "mm"
      walk_at "ho"
      refine wpAny_execs_cons ?_
      rename At _ _ _ _ _ _ => C
      refine cutP (TkA s.os g0 L X DX x dx D1 D2 l (min (k2 + 1) l.length) sv2 tk q esc et nc) ?_ ?_
      · walk_at "hx"
        walk_at "mms"
        refine br (fun h => ?_) (fun h => ?_)
        · walk_at "mms"
          rename At _ _ _ _ _ _ => C
          exact ⟨rfl, _, _, _, _, C, hF2.upd (by decide +kernel), by walk_at "mm lk", by walk_at "mm lk", ⟨_, _, by walk_at "mm lk"⟩, by walk_at "mm lk", by walk_at "mm lk", by walk_at "mm lk", by walk_at "mm lk"⟩
        · walk_at "mms"
          rename At _ _ _ _ _ _ => C
          exact ⟨rfl, _, _, _, _, C, hF2, by walk_at "mm lk", by walk_at "mm lk", ⟨_, _, by walk_at "mm lk"⟩, by walk_at "mm lk", by walk_at "mm lk", by walk_at "mm lk", by walk_at "mm lk"⟩
      · clear C a1 a2 a3 a4 a5 a6 a7 a8 a9 a10 a11 a12 a13 a14 a15 a16 a17 a18 a19 m1 m2 m3 hsv2 htk2 hln2 hF2
        rintro fl s6 ⟨rfl, mC, m4, t20, t21, C, hF3, hsv, htk3, hln3, m1, m2, m3, m5⟩
        have a13 := hF3.debug
        obtain ⟨t13, a13⟩ := a13
        dsimp only
        walk_at "mms"
        refine br (fun h => absurd h (by decide)) (fun _ => ?_)
        walk_at "mm"
        walk_at "ho"
        refine wpAny_execs_cons ?_
        rename At _ _ _ _ _ _ => C
        have hin : (l.drop k2).drop 1 = l.drop (min (k2 + 1) l.length) := by
          rw [List.drop_drop]
          rcases Nat.lt_or_ge k2 l.length with e | e
          · rw [show min (k2 + 1) l.length = k2 + 1 by lia]
          · rw [List.drop_eq_nil_of_le (by walk_at "om"), List.drop_eq_nil_of_le (by walk_at "om")]
        have hlt : nc ≠ [] → k2 < l.length := fun q => by
          rcases Nat.lt_or_ge k2 l.length with e | e
          · exact e
          · exact absurd (by rw [← hnc, List.drop_eq_nil_of_le e]; rfl) q
        refine cutP (tokOut s.os g0 L X DX x dx D1 D2 l (min (k2 + 1) l.length) tk.length nc r0) ?_ ?_
        · rw [hrt]
          rcases st2 with _ | sc
          · obtain rfl : sv2 = .none := hstv2
            exact tokNone C G R' (by walk_at "om") hF3 hsv htk3 hln3 m1 m2 m3 m5 hnc hin (by walk_at "om") hesc
          · obtain ⟨tS, rfl⟩ := hstv2
            rcases hok with rfl | rfl | rfl | rfl | rfl
            · exact tokWs C G R' (by walk_at "om") hF3 hsv htk3 hln3 m1 m2 m3 m5 hnc hin (by walk_at "om") hesc
            · exact tokA C G R' (by walk_at "om") hF3 hsv htk3 hln3 m1 m2 m3 m5 hnc hin (by walk_at "om") hesc
            · refine tokQt C G R' (by walk_at "om") hF3 (.inl rfl) hsv htk3 hln3 m1 m2 m3 m5 hnc hin (by walk_at "om") hesc ?_
              intro e t tk m' mD s7 msg C7 n1 n2 e1 e2 hb
              (walk_at "ho"; subst hg0; exact errLoop (env := tokEnv L) hl0 C7 (hFr l0 hl0) rfl rfl n1 n2 e1 e2 (fun s8 X => hE l0 _ s8 msg hl0 (by rw [hrt]; exact hb) X))
            · refine tokQt C G R' (by walk_at "om") hF3 (.inr rfl) hsv htk3 hln3 m1 m2 m3 m5 hnc hin (by walk_at "om") hesc ?_
              intro e t tk m' mD s7 msg C7 n1 n2 e1 e2 hb
              (walk_at "ho"; subst hg0; exact errLoop (env := tokEnv L) hl0 C7 (hFr l0 hl0) rfl rfl n1 n2 e1 e2 (fun s8 X => hE l0 _ s8 msg hl0 (by rw [hrt]; exact hb) X))
            · refine tokEs C G R' (by walk_at "om") hF3 hsv htk3 hln3 m1 m2 m3 m5 hnc hin (by walk_at "om") hesc ?_
              intro e t tk m' mD s7 msg C7 n1 n2 e1 e2 hb
              (walk_at "ho"; subst hg0; exact errLoop (env := tokEnv L) hl0 C7 (hFr l0 hl0) rfl rfl n1 n2 e1 e2 (fun s8 X => hE l0 _ s8 msg hl0 (by rw [hrt]; exact hb) X))
        · have go : ∀ s7, (∃ st3 tk3 q3 e3 m3, TokSt s.os g0 L X DX x dx D1 D2 l (min (k2 + 1) l.length) st3 tk3 q3 m3 s7 ∧ (∃ t, m3 "escapedstate" = some (.str (S [e3]) t)) ∧ eOk e3 ∧ tk3.length ≤ tk.length + 2 ∧ r0 = rt (l.drop (min (k2 + 1) l.length)) st3 tk3 q3 e3 ∧ nc ≠ []) →
              WhNext I (l.length + 1 - k2) s.os L s7 := by
            rintro s7 ⟨st3, tk3, q3, e3, m3', ⟨⟨mD, C7, hF7, hs7, ht7, hn7⟩, hself, hq7, hok7⟩, hesc7, he7, hl7, hr7, hne⟩
            have hk := hlt hne
            rw [show min (k2 + 1) l.length = k2 + 1 by lia] at C7 hr7
            exact ⟨l.length + 1 - (k2 + 1), _, m3', _, by walk_at "om", hI ▸ ⟨k2 + 1, st3, tk3, q3, e3, mD, rfl, rfl, hk, rfl, hF7, hs7, ht7, hn7, hself, hq7, hesc7, hok7, he7, by walk_at "om", hr7⟩, C7⟩
          clear C
          rintro fl s7 hout
          cases fl with
          | next =>
            dsimp only
            refine wpAny_execs_nil ?_
            walk_at "ho"
            exact go _ hout
          | cont =>
            dsimp only
            walk_at "ho"
            exact go _ hout
          | brk =>
            obtain ⟨st3, tk3, q3, m3', hT, hl7, hr7⟩ := hout
            dsimp only
            walk_at "ho"
            exact hPE ▸ ⟨min (k2 + 1) l.length, st3, tk3, q3, m3', by walk_at "om", hT, by walk_at "om", hr7⟩
          | ret v => exact hout.elim
    · rw [hI]
      refine ⟨k, st, [], false, 32, mA, rfl, rfl, hk, rfl, hF, ⟨sv, hsv, hstv⟩, ⟨_, htk⟩, ⟨_, _, hln⟩, by walk_at "mm lk", by walk_at "mm lk", ⟨_, by walk_at "mm lk"⟩, hst, .inl rfl, Nat.zero_le _, hr0.symm⟩
  · intro s2 hEE
    obtain ⟨k3, st3, tk3, q3, m3, hk3, ⟨⟨mC, C2, hF2, ⟨sv3, hs3, hsv3⟩, ⟨t3, ht3⟩, ⟨n3, tn3, hn3⟩⟩, hself, hq3, hok3⟩, hl3, hr3⟩ : tokEnd s.os g0 L X DX x dx D1 D2 l r0 s2 := hPE ▸ hEE
    clear C
    obtain ⟨a1, a2, a3, a4, ⟨t5, a5⟩, ⟨wc, t6, a6, w1, w2, w3⟩, ⟨t7, a7⟩, a8, ⟨t9, a9⟩, ⟨t10, a10⟩, ⟨t11, a11⟩, a12, ⟨t13, a13⟩, a14, a15, ⟨t16, a16⟩, a17, a18, a19⟩ := id hF2
    have fin : ∀ (v : Value) (m4 mD : Str → Option Value) (s4 : Shared), At s.os g0 L m4 (tokOwn X DX x dx l k3 mD) s4 → ShF x D1 D2 true [] mD → mD "state" = some sv3 → (∃ t, mD "token" = some (.str (S []) t)) → (∃ n t, mD "lineno" = some (.int n t)) → (if q3 = false ∧ tk3 = [] then v = .none else SV v tk3) → Q v s4 := by
      intro v m4 mD s4 C4 hF4 hs4 ht4 hn4 hv
      obtain ⟨oX, hoX, rfl⟩ := hX
      obtain ⟨ox, hox, rfl⟩ := hx
      refine h v st3 k3 s4 (fun b o hb e => ?_) C4.os C4.gens ?_ (C4.get (.tail _ (.tail _ (.tail _ (.head _))))) hk3 hok3 ⟨tk3, q3, hr3, hv⟩
      · by_cases eX : b = X
        · subst eX
          obtain ⟨o2, h2, rfl⟩ := C4.get (.head _)
          rw [hoX] at e; cases e; exact h2
        · by_cases ex : b = x
          · subst ex
            obtain ⟨o2, h2, rfl⟩ := C4.get (.tail _ (.tail _ (.head _)))
            rw [hox] at e; cases e; exact h2
          · refine C4.keep b o ?_
            subst hg0
            simp only [List.mem_cons, List.not_mem_nil, or_false, not_or] at hb
            rw [dropA_get, if_neg (by simp only [List.mem_cons, List.not_mem_nil, or_false, not_or]; exact ⟨eX, hb.1, ex, hb.2⟩)]
            exact e
      · obtain ⟨o2, h2, h3⟩ := C4.get (.tail _ (.head _))
        exact ⟨o2, h2, mD, h3, hF4, ⟨_, hs4, hsv3⟩, ht4, hn4⟩
    dsimp only
    walk_at "hx"
    walk_at "mms"
    refine brB (fun h1 => ?_) (fun h1 => ?_)
    · have h1 : q3 = false := by simpa using h1
      walk_at "mms"
      refine br (fun h2 => ?_) (fun h2 => ?_)
      · have h2 : tk3 = [] := by simpa using h2
        walk_at "mms"
        refine br (fun h => absurd h (by decide)) (fun _ => ?_)
        walk_at "mms"
        rename At _ _ _ _ _ _ => C
        exact fin _ _ _ _ C (by repeat' (first | exact hF2 | refine ShF.upd ?_ (by decide +kernel))) (by walk_at "mm lk") ⟨_, by walk_at "mm lk"⟩ ⟨_, _, by walk_at "mm lk"⟩ (by rw [if_pos ⟨h1, h2⟩])
      · have h2 : tk3 ≠ [] := by simpa using h2
        walk_at "mms"
        refine br (fun h => absurd h (by decide)) (fun _ => ?_)
        walk_at "mms"
        rename At _ _ _ _ _ _ => C
        exact fin _ _ _ _ C (by repeat' (first | exact hF2 | refine ShF.upd ?_ (by decide +kernel))) (by walk_at "mm lk") ⟨_, by walk_at "mm lk"⟩ ⟨_, _, by walk_at "mm lk"⟩ (by rw [if_neg (fun q => h2 q.2)]; exact ⟨_, rfl⟩)
    · have h1 : q3 = true := by simpa using h1
      walk_at "mms"
      refine br (fun h => absurd h (by decide)) (fun _ => ?_)
      walk_at "mms"
      rename At _ _ _ _ _ _ => C
      exact fin _ _ _ _ C (by repeat' (first | exact hF2 | refine ShF.upd ?_ (by decide +kernel))) (by walk_at "mm lk") ⟨_, by walk_at "mm lk"⟩ ⟨_, _, by walk_at "mm lk"⟩ (by rw [if_neg (fun q => by rw [h1] at q; cases q.1)]; exact ⟨_, rfl⟩)
end
-- MGet
section
structure LexS (h : Heap) (X DX x dx D1 D2 : Addr) (l : List Nat) (k : Nat) (st : Option Nat) : Prop where
  hX : ∃ o, h.get? X = some o ∧ instP 765 DX o
  hDX : ∃ o, h.get? DX = some o ∧ shP x D1 D2 st o
  hx : ∃ o, h.get? x = some o ∧ instP 630 dx o
  hdx : ∃ o, h.get? dx = some o ∧ sioP l k o
  nd : [X, DX, x, dx].Nodup
  hk : k ≤ l.length
  hst : okS st
  d1 : h.get? D1 = some deqO
  d2 : h.get? D2 = some deqO
  n1 : D1 ∉ [X, DX, x, dx]
  n2 : D2 ∉ [X, DX, x, dx]
noncomputable abbrev lexOwn (X DX x dx D1 D2 : Addr) (l : List Nat) (k : Nat) (st : Option Nat) : Own := [(X, instP 765 DX), (DX, shP x D1 D2 st), (x, instP 630 dx), (dx, sioP l k)]
theorem LexS.own {h : Heap} {X DX x dx D1 D2 : Addr} {l : List Nat} {k : Nat} {st : Option Nat} (S : LexS h X DX x dx D1 D2 l k st) : ∀ p ∈ lexOwn X DX x dx D1 D2 l k st, ∃ o, h.get? p.1 = some o ∧ p.2 o := by
  intro p hp
  simp only [List.mem_cons, List.not_mem_nil, or_false] at hp
  rcases hp with rfl | rfl | rfl | rfl
  · exact S.hX
  · exact S.hDX
  · exact S.hx
  · exact S.hdx
section
variable {O : OsState} {g : Heap} {L X DX x dx D1 D2 : Addr} {l : List Nat} {k : Nat} {st : Option Nat} {m : Str → Option Value} {s : Shared}
theorem lexS_of (C : At O g L m (lexOwn X DX x dx D1 D2 l k st) s) (hk : k ≤ l.length) (hst : okS st) (d1 : g.get? D1 = some deqO) (d2 : g.get? D2 = some deqO) : LexS s.heap X DX x dx D1 D2 l k st := by
  have key : ∀ D, g.get? D = some deqO → D ∉ [X, DX, x, dx] := by
    intro D hD hm
    have : D ∈ (lexOwn X DX x dx D1 D2 l k st).map Prod.fst := hm
    obtain ⟨p, hp, e⟩ := List.mem_map.mp this
    rw [← e, (C.gown p hp).1] at hD; cases hD
  exact ⟨C.get (.head _), C.get (.tail _ (.head _)), C.get (.tail _ (.tail _ (.head _))), C.get (.tail _ (.tail _ (.tail _ (.head _)))), C.nd, hk, hst, C.keep _ _ d1, C.keep _ _ d2, key _ d1, key _ d2⟩
theorem At.openLex (C : At O g L m (lexOwn X DX x dx D1 D2 l k st) s) : ∃ mA, At O g L m (tokOwn X DX x dx l k mA) s ∧ ShF x D1 D2 true [] mA ∧ (∃ v, mA "state" = some v ∧ stV st v) ∧ (∃ t, mA "token" = some (.str (S []) t)) ∧ (∃ n t, mA "lineno" = some (.int n t)) := by
  obtain ⟨o, ho, mA, hn, r⟩ := C.get (.tail _ (.head _))
  refine ⟨mA, ⟨C.keep, fun p hp => ?_, C.ns, C.gL, fun p hp => ?_, C.nd, C.os, C.gens⟩, r⟩
  · simp only [List.mem_cons, List.not_mem_nil, or_false] at hp
    rcases hp with rfl | rfl | rfl | rfl
    · exact C.get (.head _)
    · exact ⟨o, ho, hn⟩
    · exact C.get (.tail _ (.tail _ (.head _)))
    · exact C.get (.tail _ (.tail _ (.tail _ (.head _))))
  · simp only [List.mem_cons, List.not_mem_nil, or_false] at hp
    rcases hp with rfl | rfl | rfl | rfl
    · exact C.gown _ (.head _)
    · exact C.gown (DX, shP x D1 D2 st) (.tail _ (.head _))
    · exact C.gown _ (.tail _ (.tail _ (.head _)))
    · exact C.gown _ (.tail _ (.tail _ (.tail _ (.head _))))
theorem At.closeLex {mA : Str → Option Value} (C : At O g L m (tokOwn X DX x dx l k mA) s) (hF : ShF x D1 D2 true [] mA) (h1 : ∃ v, mA "state" = some v ∧ stV st v) (h2 : ∃ t, mA "token" = some (.str (S []) t)) (h3 : ∃ n t, mA "lineno" = some (.int n t)) : At O g L m (lexOwn X DX x dx D1 D2 l k st) s := by
  refine C.weak (fun p hp => ?_) rfl
  simp only [List.mem_cons, List.not_mem_nil, or_false] at hp
  rcases hp with rfl | rfl | rfl | rfl
  · exact ⟨_, .head _, fun _ r => r⟩
  · exact ⟨_, .tail _ (.head _), fun o r => ⟨mA, r, hF, h1, h2, h3⟩⟩
  · exact ⟨_, .tail _ (.tail _ (.head _)), fun _ r => r⟩
  · exact ⟨_, .tail _ (.tail _ (.tail _ (.head _))), fun _ r => r⟩
theorem lexNext {s' : Shared} {st' : Option Nat} {k' : Nat} (C : At O g L m (lexOwn X DX x dx D1 D2 l k st) s) (kk : KeepsBut [DX, dx] s.heap s'.heap) (ho : s'.os = s.os) (hg : s'.gens = #[]) (h1 : ∃ o, s'.heap.get? DX = some o ∧ shP x D1 D2 st' o) (h2 : ∃ o, s'.heap.get? dx = some o ∧ sioP l k' o) :
    At O g L m (lexOwn X DX x dx D1 D2 l k' st') s' := by
  have gn : ∀ a ∈ [DX, dx], g.get? a = none ∧ a ≠ L := by
    intro a ha
    simp only [List.mem_cons, List.not_mem_nil, or_false] at ha
    rcases ha with rfl | rfl
    · exact C.gown (_, shP x D1 D2 st) (.tail _ (.head _))
    · exact C.gown (_, sioP l k) (.tail _ (.tail _ (.tail _ (.head _))))
  have nd := C.nd
  simp only [List.map_cons, List.map_nil, List.nodup_cons, List.mem_cons, List.not_mem_nil, or_false, not_or] at nd
  refine ⟨fun b o e => kk b o (fun q => by rw [(gn b q).1] at e; cases e) (C.keep b o e), fun p hp => ?_, ?_, C.gL, fun p hp => ?_, C.nd, ho.trans C.os, hg⟩
  · simp only [List.mem_cons, List.not_mem_nil, or_false] at hp
    rcases hp with rfl | rfl | rfl | rfl
    · obtain ⟨o, e, r⟩ := C.get (.head _)
      exact ⟨o, kk _ _ (by simp only [List.mem_cons, List.not_mem_nil, or_false, not_or]; exact ⟨nd.1.1, nd.1.2.2⟩) e, r⟩
    · exact h1
    · obtain ⟨o, e, r⟩ := C.get (.tail _ (.tail _ (.head _)))
      exact ⟨o, kk _ _ (by simp only [List.mem_cons, List.not_mem_nil, or_false, not_or]; exact ⟨fun q => nd.2.1.1 q.symm, nd.2.2.1⟩) e, r⟩
    · exact h2
  · obtain ⟨o, es, ep, e, r⟩ := C.ns
    exact ⟨o, es, ep, kk _ _ (fun q => (gn L q).2 rfl) e, r⟩
  · simp only [List.mem_cons, List.not_mem_nil, or_false] at hp
    rcases hp with rfl | rfl | rfl | rfl
    · exact C.gown _ (.head _)
    · exact C.gown (DX, shP x D1 D2 st) (.tail _ (.head _))
    · exact C.gown _ (.tail _ (.tail _ (.head _)))
    · exact C.gown (dx, sioP l k) (.tail _ (.tail _ (.tail _ (.head _))))
theorem lexBack {s0 : Shared} {st0 : Option Nat} {k0 : Nat} (S : LexS s0.heap X DX x dx D1 D2 l k0 st0) (C : At O (dropA s0.heap [X, DX, x, dx]) L m (lexOwn X DX x dx D1 D2 l k st) s) : KeepsBut [DX, dx] s0.heap s.heap := by
  intro b o hb e
  obtain ⟨oX, hoX, rfl⟩ := S.hX
  obtain ⟨ox, hox, rfl⟩ := S.hx
  by_cases eX : b = X
  · subst eX
    obtain ⟨o2, h2, rfl⟩ := C.get (.head _)
    rw [hoX] at e; cases e; exact h2
  · by_cases ex : b = x
    · subst ex
      obtain ⟨o2, h2, rfl⟩ := C.get (.tail _ (.tail _ (.head _)))
      rw [hox] at e; cases e; exact h2
    · refine C.keep b o ?_
      simp only [List.mem_cons, List.not_mem_nil, or_false, not_or] at hb
      rw [dropA_get, if_neg (by simp only [List.mem_cons, List.not_mem_nil, or_false, not_or]; exact ⟨eX, hb.1, ex, hb.2⟩)]
      exact e
theorem lexFree (C : At O g L m (lexOwn X DX x dx D1 D2 l k st) s) : ∀ a ∈ [X, DX, x, dx], g.get? a = none ∧ a ≠ L := by
  intro a ha
  have : a ∈ (lexOwn X DX x dx D1 D2 l k st).map Prod.fst := ha
  obtain ⟨p, hp, rfl⟩ := List.mem_map.mp this
  exact C.gown p hp
end
theorem spGet {w : World} {A : Around} {E : Value → Shared → Prop} {s : Shared} {X DX x dx D1 D2 : Addr} {l : List Nat} {k : Nat} {st : Option Nat} {j : Nat} {Q : Value → Shared → Prop} (G : Gd w (dropA s.heap [X, DX, x, dx])) (G0 : Gd w s.heap) (R : Rm j A) (hj : j ≤ 58) (hg : s.gens = #[])
    (SL : LexS s.heap X DX x dx D1 D2 l k st) (hl : l.length ≤ 400000)
    (hFr : ∀ l0, A.frames = some l0 → FrH l0 [X, DX, x, dx] s.heap)
    (h : ∀ v st' k' (s' : Shared), KeepsBut [DX, dx] s.heap s'.heap → s'.os = s.os → s'.gens = #[] → LexS s'.heap X DX x dx D1 D2 l k' st' → TokOut (rt (l.drop k) st [] false 32) v st' (l.drop k') → Q v s')
    (hE : ∀ l0 e s' msg, A.frames = some l0 → rt (l.drop k) st [] false 32 = .bad msg → ErrR l0 [X, DX, x, dx] msg s s' e → E e s') :
    wpAny (Md w) A (call (.ref 726) [.ref X]) Q E s := by
  obtain ⟨l0, hl0⟩ := R.frames
  refine wpAny_call (codeKv (binds := [("self", .ref X)]) G0 R (by walk_at "om") (lk726 w) (cd726 w) (BindsTo.of_eq rfl) rfl (by kernel_rfl) rfl rfl rfl hg (lexOwn X DX x dx D1 D2 l k st) SL.own (by exact SL.nd) ?_)
  intro L s' C
  change At s.os (dropA s.heap [X, DX, x, dx]) L _ (lexOwn X DX x dx D1 D2 l k st) s' at C
  have R' := R.deeper (envOf "shlex.get_token" (fnScope (clsAt PG 29 5)) L 726 (.ref 725))
  have d1 : (dropA s.heap [X, DX, x, dx]).get? D1 = some deqO := by rw [dropA_get, if_neg SL.n1]; exact SL.d1
  have d2 : (dropA s.heap [X, DX, x, dx]).get? D2 = some deqO := by rw [dropA_get, if_neg SL.n2]; exact SL.d2
  obtain ⟨mA, C1, hF, hs1, ht1, hn1⟩ := C.openLex
  clear C
  obtain ⟨a1, a2, a3, a4, a5, a6, a7, a8, a9, a10, a11, a12, ⟨t13, a13⟩, a14, a15, a16, a17, a18, a19⟩ := id hF
  walk_at "xs"
  walk_at "mms"
  rename At _ _ _ _ _ _ => C
  have C2 := C.closeLex hF hs1 ht1 hn1
  refine spTok (G.keeps (keepsDrop C2.keep fun a ha => (lexFree C2 a ha).1)) (C2.gd G) R' (by walk_at "om") C2.gens (C2.get (.head _)) (C2.get (.tail _ (.head _))) (C2.get (.tail _ (.tail _ (.head _)))) (C2.get (.tail _ (.tail _ (.tail _ (.head _))))) SL.nd SL.hk hl SL.hst ?_ ?_ ?_
  · intro l1 e1
    have e1 : (A.frames.map _) = some l1 := e1
    rw [hl0] at e1
    cases e1
    exact frh1 C2 (hFr l0 hl0) rfl rfl (lexFree C2)
  · intro v st2 k2 s2 kk ho hg2 hDX2 hdx2 hk2 hok2 hout
    have C3 := lexNext C2 kk ho hg2 hDX2 hdx2
    clear C C2
    obtain ⟨mB, C4, hF4, hs4, ht4, hn4⟩ := C3.openLex
    have fin : ∀ (m4 : Str → Option Value) (s4 : Shared) mD, At s.os (dropA s.heap [X, DX, x, dx]) L m4 (tokOwn X DX x dx l k2 mD) s4 → ShF x D1 D2 true [] mD → (∃ v, mD "state" = some v ∧ stV st2 v) → (∃ t, mD "token" = some (.str (S []) t)) → (∃ n t, mD "lineno" = some (.int n t)) → Q v s4 := by
      intro m4 s4 mD C5 q1 q2 q3 q4
      have C6 := C5.closeLex q1 q2 q3 q4
      exact h v st2 k2 s4 (lexBack SL C6) C6.os C6.gens (lexS_of C6 hk2 hok2 d1 d2) hout
    clear C3
    obtain ⟨b1, b2, b3, b4, b5, b6, b7, b8, b9, b10, b11, b12, ⟨t14, b13⟩, b14, b15, b16, b17, b18, b19⟩ := id hF4
    obtain ⟨tk, q, hr, hv⟩ := hout
    by_cases hz : q = false ∧ tk = []
    · rw [if_pos hz] at hv
      subst hv
      walk_at "mms"
      rename At _ _ _ _ _ _ => C5
      refine wpAny_While ?_
      refine whileR (fun n g' m' own' => g' = dropA s.heap [X, DX, x, dx] ∧ m' "raw" = some .none ∧ m' "self" = some (.ref X) ∧ own' = tokOwn X DX x dx l k2 mB) ?_ 0 ⟨rfl, by walk_at "mm lk", by walk_at "mm lk", rfl⟩ C5
      rintro n g' m' own' s5 ⟨rfl, r1, r2, rfl⟩ C6
      clear C5
      walk_at "mms"
      rename At _ _ _ _ _ _ => C
      exact fin _ _ _ C hF4 hs4 ht4 hn4
    · rw [if_neg hz] at hv
      obtain ⟨tv, rfl⟩ := hv
      walk_at "mms"
      rename At _ _ _ _ _ _ => C5
      refine wpAny_While ?_
      refine whileR (fun n g' m' own' => g' = dropA s.heap [X, DX, x, dx] ∧ m' "raw" = some (.str (S tk) tv) ∧ m' "self" = some (.ref X) ∧ own' = tokOwn X DX x dx l k2 mB) ?_ 0 ⟨rfl, by walk_at "mm lk", by walk_at "mm lk", rfl⟩ C5
      rintro n g' m' own' s5 ⟨rfl, r1, r2, rfl⟩ C6
      clear C5
      walk_at "mms"
      refine br (fun h => absurd h (by decide)) (fun _ => ?_)
      walk_at "mms"
      rename At _ _ _ _ _ _ => C
      exact fin _ _ _ C hF4 hs4 ht4 hn4
  · intro l1 e s2 msg el1 hb X2
    have el1 : (A.frames.map _) = some l1 := el1
    rw [hl0] at el1
    cases el1
    walk_at "ho"
    exact errThrough hl0 C2 (hFr l0 hl0) rfl rfl (lexFree C2) X2 (fun s3 X3 => hE l0 e s3 msg hl0 hb X3)
end
-- MNext
section
theorem spIter {w : World} {A : Around} {E : Value → Shared → Prop} {s : Shared} {X : Addr} {j : Nat} {Q : Value → Shared → Prop} (G0 : Gd w s.heap) (R : Rm j A) (hj : j ≤ 90) (hg : s.gens = #[])
    (h : ∀ s', Keeps s.heap s'.heap → s'.os = s.os → s'.gens = #[] → Q (.ref X) s') : wpAny (Md w) A (call (.ref 755) [.ref X]) Q E s := by
  refine callK0 (binds := [("self", .ref X)]) G0 R (by walk_at "om") (lk755 w) (cd755 w) (BindsTo.of_eq rfl) rfl (by kernel_rfl) rfl rfl rfl hg ?_
  intro L s' C _
  walk_at "xs"
  walk_at "mms"
  rename At _ _ _ _ _ _ => C
  exact h _ C.keep C.os C.gens
theorem spNext {w : World} {A : Around} {E : Value → Shared → Prop} {s : Shared} {X DX x dx D1 D2 : Addr} {l : List Nat} {k : Nat} {st : Option Nat} {j : Nat} {Q : Value → Shared → Prop} (G : Gd w (dropA s.heap [X, DX, x, dx])) (G0 : Gd w s.heap) (R : Rm j A) (hj : j ≤ 50) (hg : s.gens = #[])
    (SL : LexS s.heap X DX x dx D1 D2 l k st) (hl : l.length ≤ 400000)
    (hFr : ∀ l0, A.frames = some l0 → FrH l0 [X, DX, x, dx] s.heap)
    (h : ∀ tk q t st' k' (s' : Shared), KeepsBut [DX, dx] s.heap s'.heap → s'.os = s.os → s'.gens = #[] → LexS s'.heap X DX x dx D1 D2 l k' st' → rt (l.drop k) st [] false 32 = .tok tk q (l.drop k') st' → ¬ (q = false ∧ tk = []) → Q (.str (S tk) t) s')
    (hS : ∀ l0 e s' st' k', A.frames = some l0 → rt (l.drop k) st [] false 32 = .tok [] false (l.drop k') st' → StopR l0 [X, DX, x, dx] s s' e → E e s')
    (hE : ∀ l0 e s' msg, A.frames = some l0 → rt (l.drop k) st [] false 32 = .bad msg → ErrR l0 [X, DX, x, dx] msg s s' e → E e s') :
    wpAny (Md w) A (call (.ref 762) [.ref X]) Q E s := by
  obtain ⟨l0, hl0⟩ := R.frames
  refine wpAny_call (codeKv (binds := [("self", .ref X)]) G0 R (by walk_at "om") (lk762 w) (cd762 w) (BindsTo.of_eq rfl) rfl (by kernel_rfl) rfl rfl rfl hg (lexOwn X DX x dx D1 D2 l k st) SL.own (by exact SL.nd) ?_)
  intro L s' C
  change At s.os (dropA s.heap [X, DX, x, dx]) L _ (lexOwn X DX x dx D1 D2 l k st) s' at C
  have R' := R.deeper (envOf "shlex.__next__" (fnScope (clsAt PG 29 10)) L 762 (.ref 761))
  have d1 : (dropA s.heap [X, DX, x, dx]).get? D1 = some deqO := by rw [dropA_get, if_neg SL.n1]; exact SL.d1
  have d2 : (dropA s.heap [X, DX, x, dx]).get? D2 = some deqO := by rw [dropA_get, if_neg SL.n2]; exact SL.d2
  obtain ⟨mA, C1, hF, hs1, ht1, hn1⟩ := C.openLex
  clear C
  obtain ⟨a1, a2, a3, a4, a5, a6, a7, a8, a9, a10, a11, a12, ⟨t13, a13⟩, a14, a15, a16, a17, a18, a19⟩ := id hF
  walk_at "xs"
  walk_at "mms"
  rename At _ _ _ _ _ _ => C
  have C2 := C.closeLex hF hs1 ht1 hn1
  refine spGet (G.keeps (keepsDrop C2.keep fun a ha => (lexFree C2 a ha).1)) (C2.gd G) R' (by walk_at "om") C2.gens (lexS_of C2 SL.hk SL.hst d1 d2) hl ?_ ?_ ?_
  · intro l1 e1
    have e1 : (A.frames.map _) = some l1 := e1
    rw [hl0] at e1
    cases e1
    exact frh1 C2 (hFr l0 hl0) rfl rfl (lexFree C2)
  · intro v st2 k2 s2 kk ho hg2 S2 hout
    have C3 := lexNext C2 kk ho hg2 S2.hDX S2.hdx
    clear C C2
    obtain ⟨mB, C4, hF4, hs4, ht4, hn4⟩ := C3.openLex
    clear C3
    obtain ⟨b1, b2, b3, b4, b5, b6, b7, b8, b9, b10, b11, b12, ⟨t14, b13⟩, b14, b15, b16, b17, b18, b19⟩ := id hF4
    obtain ⟨tk, q, hr, hv⟩ := hout
    by_cases hz : q = false ∧ tk = []
    · rw [if_pos hz] at hv
      subst hv
      obtain ⟨rfl, rfl⟩ := hz
      walk_at "mms"
      rename At _ _ _ _ _ _ => C
      refine owsi_raiseC R'.handled ?_ ?_
      · refine ldB C G (gb_StopIteration w) (by boot_by_name) (by kernel_rfl) ⟨rfl, rfl⟩
      · intro h' e hm
        walk_at "ho"
        exact stopLeave (env := envOf "shlex.__next__" (fnScope (clsAt PG 29 10)) L 762 (.ref 761)) hl0 C (hFr l0 hl0) rfl rfl hm (fun s3 X3 => hS l0 _ s3 st2 k2 hl0 hr X3)
    · rw [if_neg hz] at hv
      obtain ⟨tv, rfl⟩ := hv
      walk_at "mms"
      rename At _ _ _ _ _ _ => C
      have C6 := C.closeLex hF4 hs4 ht4 hn4
      exact h tk q tv st2 k2 _ (lexBack SL C6) C6.os C6.gens (lexS_of C6 S2.hk S2.hst d1 d2) hr hz
  · intro l1 e s2 msg el1 hb X2
    have el1 : (A.frames.map _) = some l1 := el1
    rw [hl0] at el1
    cases el1
    walk_at "ho"
    exact errThrough hl0 C2 (hFr l0 hl0) rfl rfl (lexFree C2) X2 (fun s3 X3 => hE l0 e s3 msg hl0 hb X3)
end
-- MList
section
open Builtin
inductive TokAll : List Nat → Option Nat → Except (List Nat) (List (List Nat)) → Prop
  | fin {inp : List Nat} {st st' : Option Nat} {rest : List Nat} (h : rt inp st [] false 32 = .tok [] false rest st') : TokAll inp st (.ok [])
  | more {inp rest tk : List Nat} {st st' : Option Nat} {q : Bool} {r : Except (List Nat) (List (List Nat))} (h : rt inp st [] false 32 = .tok tk q rest st') (hn : ¬ (q = false ∧ tk = [])) (t : TokAll rest st' r) : TokAll inp st (r.map (tk :: ·))
  | bad {inp msg : List Nat} {st : Option Nat} (h : rt inp st [] false 32 = .bad msg) : TokAll inp st (.error msg)
theorem rt_len : ∀ (inp : List Nat) (st : Option Nat) (tk : List Nat) (q : Bool) (e : Nat) {tk' : List Nat} {q' : Bool} {rest : List Nat} {st' : Option Nat}, rt inp st tk q e = .tok tk' q' rest st' → rest.length < inp.length ∨ (inp = [] ∧ rest = [] ∧ (tk' = tk ∨ tk' = []) ∧ q' = q) := by
  intro inp
  induction inp with
  | nil =>
    intro st tk q e tk' q' rest st' h
    right
    cases st with
    | none => rw [rt] at h; injection h with h1 h2 h3 h4; exact ⟨rfl, h3 ▸ rfl, .inr h1.symm, h2.symm⟩
    | some s =>
      rw [rt] at h
      split at h
      · injection h with h1 h2 h3 h4; exact ⟨rfl, h3 ▸ rfl, .inl h1.symm, h2.symm⟩
      · split at h
        · cases h
        · split at h
          · cases h
          · injection h with h1 h2 h3 h4; exact ⟨rfl, h3 ▸ rfl, .inl h1.symm, h2.symm⟩
  | cons c r ih =>
    intro st tk q e tk' q' rest st' h
    left
    have step : ∀ {st2 : Option Nat} {tk2 : List Nat} {q2 : Bool} {e2 : Nat}, rt r st2 tk2 q2 e2 = .tok tk' q' rest st' → rest.length < (c :: r).length := by
      intro st2 tk2 q2 e2 h2
      rcases ih st2 tk2 q2 e2 h2 with h3 | ⟨h3, h4, _⟩
      · simp; lia
      · subst h4; simp
    have here : ∀ {tk2 : List Nat} {q2 : Bool} {s2 : Option Nat}, (TokR.tok tk2 q2 r s2) = .tok tk' q' rest st' → rest.length < (c :: r).length := by
      intro tk2 q2 s2 h2
      injection h2 with _ _ h3 _
      subst h3; simp
    cases st with
    | none => rw [rt] at h; exact here h
    | some s =>
      rw [rt] at h
      repeat' (first | exact step h | exact here h | split at h)
theorem LexS.inst {h : Heap} {X DX x dx D1 D2 : Addr} {l : List Nat} {k : Nat} {st : Option Nat} (SL : LexS h X DX x dx D1 D2 l k st) : ∃ od, InstAt h X (instObj 765 DX) 765 (some od) := by
  obtain ⟨o, ho, rfl⟩ := SL.hX
  obtain ⟨od, hod, _⟩ := SL.hDX
  exact ⟨od, ho, rfl, rfl, hod⟩
theorem At.growL {O : OsState} {g : Heap} {L : Addr} {m : Str → Option Value} {own own' : Own} {s s' : Shared} {chg : List Addr} (C : At O g L m own s) (kk : KeepsBut chg s.heap s'.heap) (hk : own'.map Prod.fst = own.map Prod.fst)
    (ho : ∀ p ∈ own', (p ∈ own ∧ p.1 ∉ chg) ∨ ∃ o, s'.heap.get? p.1 = some o ∧ p.2 o) (hc : ∀ a ∈ chg, a ∈ own.map Prod.fst) (os : s'.os = s.os) (gens : s'.gens = #[]) : At O g L m own' s' := by
  have gn : ∀ a ∈ own.map Prod.fst, g.get? a = none ∧ a ≠ L := by
    intro a ha
    obtain ⟨p, hp, rfl⟩ := List.mem_map.mp ha
    exact C.gown p hp
  refine ⟨fun b o e => kk b o (fun q => by rw [(gn b (hc b q)).1] at e; cases e) (C.keep b o e), fun p hp => ?_, ?_, C.gL, fun p hp => gn _ (by rw [← hk]; exact List.mem_map_of_mem hp), by rw [hk]; exact C.nd, os.trans C.os, gens⟩
  · rcases ho p hp with ⟨h1, h2⟩ | h
    · obtain ⟨o, e, r⟩ := C.ow p h1; exact ⟨o, kk _ _ h2 e, r⟩
    · exact h
  · obtain ⟨o, es, ep, e, r⟩ := C.ns
    exact ⟨o, es, ep, kk _ _ (fun q => (gn L (hc L q)).2 rfl) e, r⟩
section
variable {w : World} {A : Around} {E : Value → Shared → Prop} {O : OsState} {L X DX x dx D1 D2 a : Addr} {l : List Nat} {k : Nat} {st : Option Nat} {m : Str → Option Value} {s0 s : Shared} {chg0 : List Addr} {l0 : List Env} {env : Env} {vs : List Value} {j : Nat}
theorem loopLex {Q : Value → Shared → Prop} {Rel : Except (List Nat) (List (List Nat)) → Prop} (G : Gd w (dropA s0.heap chg0)) (R : Rm j A) (hj : j ≤ 48) (hl : l.length ≤ 400000) (hfr : A.frames = some (env :: l0)) (hF : FrH l0 chg0 s0.heap) (hf : env.frame = some L) (hk : env.scope.kind = .function) (hos : O = s0.os)
    (d1 : (dropA s0.heap chg0).get? D1 = some deqO) (d2 : (dropA s0.heap chg0).get? D2 = some deqO) (hfrs : ∀ b ∈ X :: DX :: x :: dx :: [a], b ∉ frs l0)
    (hQ : ∀ s' vs' ws, At O (dropA s0.heap (chg0 ++ frs l0)) L m [(a, lst vs')] s' → (∀ L' ∈ frs l0, L' ∉ chg0 → ∀ m', s0.heap.Ns L' m' → s'.heap.Ns L' m') → StrsV vs' ws → Rel (.ok ws) → Q .none s')
    (hE : ∀ sk own e s' msg, At O (dropA s0.heap chg0) L m own sk → (∀ b ∈ [X, DX, x, dx], (dropA s0.heap chg0).get? b = none ∧ b ≠ L) → Rel (.error msg) → ErrR (env :: l0) [X, DX, x, dx] msg sk s' e → E e s') :
    ∀ (n : Nat) (k : Nat) (st : Option Nat) (vs : List Value) (acc : List (List Nat)) (s : Shared), l.length - k ≤ n → k ≤ l.length → okS st → At O (dropA s0.heap chg0) L m ((a, lst vs) :: lexOwn X DX x dx D1 D2 l k st) s → StrsV vs acc → vs.length + (l.length - k) ≤ 400000 →
      (∀ r, TokAll (l.drop k) st r → Rel (r.map (acc ++ ·))) → codeAny (Md w) A (.builtin "list.extend.loop" ⟨[.ref a, .ref X, .none], []⟩) (wants Q E) s := by
  intro n
  induction n using Nat.strongRecOn with
  | ind n ih =>
    intro k st vs acc s hn hkl hst C hv hvl hRel
    have Cx := C.drop (own' := lexOwn X DX x dx D1 D2 l k st) (List.sublist_cons_self _ _)
    have SL := lexS_of Cx hkl hst d1 d2
    have fr := lexFree Cx
    obtain ⟨od, I⟩ := SL.inst
    have XK := (C.gd G).K
    refine codeAny_builtin F.entry_extend_loop ?_
    rw [Around.under_plainId F.plain_extend_loop _]
    show wpAny _ A.in1 (pyNext (.ref X) >>= _) _ _ s
    refine wpAny_bind ?_
    unfold pyNext
    refine wpAny_bind (wpAny_attempt ?_)
    refine special_fn (f := 762) XK I (by kernel_rfl) (by kernel_rfl) ?_
    refine spNext (G.keeps (keepsDrop C.keep fun b hb => (fr b hb).1)) (C.gd G) R.in1 (by lia) C.gens SL hl ?_ ?_ ?_ ?_
    · intro l1 e1
      have e1 : A.frames = some l1 := e1
      rw [hfr] at e1; cases e1
      exact frh1 Cx hF hf hk fr
    · -- a word
      intro tk q t st' k' s' kk ho hg S' hr hne
      have hlen := rt_len _ _ _ _ _ hr
      have hlt : l.length - k' < l.length - k := by
        rcases hlen with h1 | ⟨_, _, h3, h4⟩
        · simpa using h1
        · exact absurd ⟨h4, by simpa using h3⟩ hne
      have C' : At O (dropA s0.heap chg0) L m ((a, lst vs) :: lexOwn X DX x dx D1 D2 l k' st') s' := by
        refine C.growL kk rfl (fun p hp => ?_) (fun b hb => ?_) ho hg
        · have nd := C.nd
          simp only [List.map_cons, List.map_nil, List.nodup_cons, List.mem_cons, List.not_mem_nil, or_false, not_or] at nd
          rcases List.mem_cons.mp hp with rfl | hp
          · exact .inl ⟨.head _, by simp only [List.mem_cons, List.not_mem_nil, or_false, not_or]; exact ⟨nd.1.2.1, nd.1.2.2.2⟩⟩
          · exact .inr (S'.own p hp)
        · simp only [List.mem_cons, List.not_mem_nil, or_false] at hb
          rcases hb with rfl | rfl <;> simp
      refine wpAny_pure ?_
      show wpAny _ A.in1 (updateSeq a (·.push (.str (S tk) t)) >>= _) _ _ _
      refine wpAny_bind (pushP C' (u := .head) (by unfold sizeLine; lia) fun s2 C2 => ?_)
      refine wpAny_pure ⟨plainId_quiet F.plain_extend_loop _, ?_⟩
      refine ih (l.length - k') (by lia) k' st' (vs ++ [.str (S tk) t]) (acc ++ [tk]) s2 (Nat.le_refl _) S'.hk S'.hst C2 (hv.append (.cons ⟨t, rfl⟩ .nil)) (by simp; lia) fun r hr2 => ?_
      have := hRel _ (.more hr hne hr2)
      cases r with
      | ok ws => simpa [Except.map] using this
      | error e => exact this
    · -- the end
      intro l1 e s' st' k' e1 hr X2
      have e1 : A.frames = some l1 := e1
      rw [hfr] at e1; cases e1
      obtain ⟨ea, t, rfl, hfl⟩ := X2.ex
      obtain ⟨ob, hob, hcl⟩ := hfl.there
      dsimp only
      refine wpAny_bind (wpAny_isInstance (T := "StopIteration") (b := true) ⟨ob, hob, hcl⟩ (by rw [isSubtype_type]; kernel_rfl) ?_)
      rw [if_pos rfl]
      refine wpAny_pure ?_
      have C2 := C.afterStop (own' := [(a, lst vs)]) X2 hf (by simp) (by
        intro p hp
        rw [List.mem_singleton.mp hp]
        have nd := C.nd
        simp only [List.map_cons, List.map_nil, List.nodup_cons, List.mem_cons, List.not_mem_nil, or_false, not_or] at nd
        exact ⟨by simp only [List.mem_cons, List.not_mem_nil, or_false, not_or]; exact nd.1, hfrs a (by simp)⟩) fr
      have hh := hRel _ (.fin hr)
      simp only [Except.map, List.append_nil] at hh
      refine wpAny_pure (hQ s' vs acc C2 (fun L' hL hn m' hm => X2.ns L' ?_ (fun q => hfrs L' (List.mem_append_left [a] q) hL) m' (ns1 C hn hm)) hv hh)
      unfold frs at hL ⊢; rw [List.filterMap_cons, hf]; exact .tail _ hL
    · -- an error
      intro l1 e s' msg e1 hb X2
      have e1 : A.frames = some l1 := e1
      rw [hfr] at e1; cases e1
      obtain ⟨ea, t, tk, rfl, hfl, _, _⟩ := X2.ex
      obtain ⟨ob, hob, hcl⟩ := hfl.there
      dsimp only
      refine wpAny_bind (wpAny_isInstance (T := "ValueError") (b := false) ⟨ob, hob, hcl⟩ (by rw [isSubtype_type]; kernel_rfl) ?_)
      rw [if_neg Bool.false_ne_true]
      refine wpAny_throw ?_
      exact hE s _ _ s' msg C fr (hRel _ (.bad hb)) X2
end
end
-- MList2
section
open Builtin
section
variable {w : World} {A : Around} {E : Value → Shared → Prop} {O : OsState} {L X DX x dx D1 D2 : Addr} {l : List Nat} {k : Nat} {st : Option Nat} {m : Str → Option Value} {s0 s : Shared} {chg0 : List Addr} {l0 : List Env} {env : Env} {j : Nat}
theorem updA {g : Heap} {own own' : Own} {P : Addr} {ps qs : List Value} {f : Array Value → Array Value} {Q : Unit → Shared → Prop} (C : At O g L m own s) (u : Upd P (lst ps) (lst qs) own own') (hf : f ps.toArray = qs.toArray) (hsz : qs.length ≤ sizeLine) (hsz2 : ps.length ≤ sizeLine) (h : ∀ s', At O g L m own' s' → Q () s') : wpAny (Md w) A (updateSeq P f) Q E s := by
  obtain ⟨o, ho, n, ro⟩ := C.get u.mem
  have hd : o.data = .seq ps.toArray n := by rw [ro]
  refine wpAny_updateSeq ho hd (h _ (C.upd u (Heap.SameBut.update ..) ?_ s.toks)) (by rw [List.size_toArray]; lia) (by rw [hf, List.size_toArray]; lia)
  refine ⟨_, Heap.get?_update_self _ ho (by rw [ro]; rfl), ?_⟩
  rw [ro]
  exact ⟨_, by simp only [Obj.mapSeq, hf]; rfl⟩
theorem unlessBound {M : Model} {K : Frag} {x C f : Addr} {ox : Obj} {od : Option Obj} {name : Str} {refuse : Sem Value} {Q : Option Value → Shared → Prop} (X : K.In s.heap) (I : InstAt s.heap x ox C od) (hs : findIn K (.ref C) name = some (some (.ref f))) (hf : isFn K (.ref f) = true)
    (h : wpAny M A (call (.ref f) [.ref x]) (fun v => Q (some v)) E s) : wpAny M A (callSpecialIfBoundUnlessNone? (.ref x) name refuse) Q E s := by
  simp only [callSpecialIfBoundUnlessNone?, bindSpecialIfBound?]
  refine wpAny_holding (wpAny_bind (wpAny_bind (wpAny_bind (I.type.here ((looks_findIn X hs).here ?_)))))
  refine wpAny_bind (wpAny_askSetting (wpAny_ite ?_))
  have fin : wpAny M A (if (Value.ref f == Value.none) = true then refuse >>= fun v => pure (some v) else call (.ref f) [.ref x] >>= fun v => pure (some v)) Q E s := by
    rw [if_neg (by simp)]
    exact wpAny_bind (wpAny_mono h (fun v s' h' => wpAny_pure h') fun _ _ h' => h')
  split
  · exact wpAny_bind ((bind_fn X _ (beq_iff_eq.mp hf)).here (wpAny_pure (by exact fin)))
  · exact wpAny_tryCatch (wpAny_bind ((bind_fn X _ (beq_iff_eq.mp hf)).here (wpAny_pure (by exact fin))))
theorem callListLex {Q : Value → Shared → Prop} {Rel : Except (List Nat) (List (List Nat)) → Prop} (G : Gd w (dropA s0.heap chg0)) (R : Rm j A) (hj : j ≤ 44) (hl : l.length ≤ 400000) (hfr : A.frames = some (env :: l0)) (hF : FrH l0 chg0 s0.heap) (hf : env.frame = some L) (hk : env.scope.kind = .function) (hos : O = s0.os)
    (d1 : (dropA s0.heap chg0).get? D1 = some deqO) (d2 : (dropA s0.heap chg0).get? D2 = some deqO) (hfrs : ∀ b ∈ [X, DX, x, dx], b ∉ frs l0) (hfl : ∀ b ∈ frs l0, ∃ o, s0.heap.get? b = some o ∧ b ∉ chg0)
    (C : At O (dropA s0.heap chg0) L m (lexOwn X DX x dx D1 D2 l k st) s) (hkl : k ≤ l.length) (hst : okS st)
    (hQ : ∀ a s' vs' ws, s.heap.get? a = none → At O (dropA s0.heap (chg0 ++ frs l0)) L m [(a, lst vs')] s' → (∀ L' ∈ frs l0, L' ∉ chg0 → ∀ m', s0.heap.Ns L' m' → s'.heap.Ns L' m') → StrsV vs' ws → Rel (.ok ws) → Q (.ref a) s')
    (hE : ∀ sk own e s' msg, At O (dropA s0.heap chg0) L m own sk → (∀ b ∈ [X, DX, x, dx], (dropA s0.heap chg0).get? b = none ∧ b ≠ L) → Rel (.error msg) → ErrR (env :: l0) [X, DX, x, dx] msg sk s' e → E e s')
    (hRel : ∀ r, TokAll (l.drop k) st r → Rel r) : wpAny (Md w) A (call (.type "list") [.ref X]) Q E s := by
  have aF : ∀ b ∈ frs l0, b ≠ s.heap.objs.size := by
    intro b hb
    obtain ⟨o, ho, hn⟩ := hfl b hb
    exact Nat.ne_of_lt (Heap.lt_size (C.keep b o (by rw [dropA_get, if_neg hn]; exact ho)))
  refine callType_codes (Q₁ := fun obj s₁ => obj = .ref s.heap.objs.size ∧ s₁ = { s with heap := s.heap.push { cls := .type "list", data := .seq #[] } }) PySem.F.called_list (PySem.F.typeCall_list_1 _) PySem.F.entry_list_init
    (code_list_new _ ⟨rfl, rfl⟩) fun obj s₁ h₁ => ?_
  obtain ⟨rfl, rfl⟩ := h₁
  have hS : (s.heap.push { cls := .type "list", data := .seq #[] }).get? s.heap.objs.size = some { cls := .type "list", data := .seq #[] } := Heap.get?_push_size _ rfl
  refine ⟨⟨_, hS, rfl⟩, PySem.F.args_list_init_2 _ _, ?_⟩
  have C1 := C.push { cls := .type "list", data := .seq #[] } rfl (P := lst []) (lst_new [] 0)
  generalize hs1 : ({ s with heap := s.heap.push { cls := .type "list", data := .seq #[] } } : Shared) = s1 at C1 hS ⊢
  have hnew : s.heap.get? s.heap.objs.size = none := by
    cases e : s.heap.get? s.heap.objs.size with
    | none => rfl
    | some o => exact absurd (Heap.lt_size e) (Nat.lt_irrefl _)
  generalize ha : s.heap.objs.size = a at C1 hS aF hnew ⊢
  have SL := lexS_of (C1.drop (own' := lexOwn X DX x dx D1 D2 l k st) (List.sublist_cons_self _ _)) hkl hst d1 d2
  show wpAny _ A.in1.in1 (do let old ← Builtin.List.listItems (.ref a); Builtin.List.listUpdate (.ref a) (fun _ => #[]); letGo old.toList.reverse; Builtin.List.listExtendWith (.ref a) (.ref X) .none) _ _ s1
  refine wpAny_bind ?_
  unfold Builtin.List.listItems
  obtain ⟨ol, hol, nl, rol⟩ := C1.get (.head _)
  refine wpAny_bind (wpAny_seqItems hol (by rw [rol]) (wpAny_pure ?_))
  show wpAny _ A.in1.in1 (updateSeq a (fun _ => #[]) >>= fun _ => letGo (#[] : Array Value).toList.reverse >>= fun _ => Builtin.List.listExtendWith (.ref a) (.ref X) .none) _ _ s1
  refine wpAny_bind (updA C1 .head rfl (Nat.zero_le _) (Nat.zero_le _) fun s2 C2 => ?_)
  refine wpAny_bind (wpAny_letGo ?_)
  clear C1 SL
  have Cx := C2.drop (own' := lexOwn X DX x dx D1 D2 l k st) (List.sublist_cons_self _ _)
  have SL := lexS_of Cx hkl hst d1 d2
  obtain ⟨od, I⟩ := SL.inst
  have XK := (C2.gd G).K
  have ne : a ≠ X := by
    have nd := C2.nd
    simp only [List.map_cons, List.map_nil, List.nodup_cons, List.mem_cons, List.not_mem_nil, or_false, not_or] at nd
    exact nd.1.1
  unfold Builtin.List.listExtendWith
  refine wpAny_bind (I.type.here ?_)
  have h1 : Builtin.List.listSameRef (.ref a) (.ref X) = false := by simp [Builtin.List.listSameRef, ne]
  have h2 : (Value.ref 765 == Value.type "list") = false := by decide
  have h3 : (Value.ref 765 == Value.type "tuple") = false := by decide
  simp only [h1, h2, h3, Bool.or_false, Bool.false_eq_true, if_false]
  have Li : Looks (Md w) s2.heap (specialOf (.ref X) "__iter__") (some (.ref 755)) := I.type.andThen (looks_findIn XK (by kernel_rfl))
  refine wpAny_bind ?_
  unfold pyIter
  refine wpAny_bind (Li.here ?_)
  dsimp only
  refine wpAny_bind (unlessBound (f := 755) XK I (by kernel_rfl) (by kernel_rfl) ?_)
  refine spIter (C2.gd G) R.in1.in1 (by lia) C2.gens ?_
  intro s3 k3 o3 g3
  have C3 := C2.grow k3 o3 (g3.trans C2.gens.symm)
  clear C2
  have Cx := C3.drop (own' := lexOwn X DX x dx D1 D2 l k st) (List.sublist_cons_self _ _)
  have SL := lexS_of Cx hkl hst d1 d2
  obtain ⟨od, I⟩ := SL.inst
  have XK := (C3.gd G).K
  have Ln : Looks (Md w) s3.heap (specialOf (.ref X) "__next__") (some (.ref 762)) := I.type.andThen (looks_findIn XK (by kernel_rfl))
  have Ll : Looks (Md w) s3.heap (specialOf (.ref X) "__len__") none := I.type.andThen (looks_findIn XK (by kernel_rfl))
  have Lh : Looks (Md w) s3.heap (specialOf (.ref X) "__length_hint__") none := I.type.andThen (looks_findIn XK (by kernel_rfl))
  dsimp only
  refine wpAny_bind (Ln.here ?_)
  dsimp only
  refine wpAny_pure ?_
  refine wpAny_bind (wpAny_holding ?_)
  unfold Builtin.List.listLengthHint
  refine wpAny_bind (Ll.here ?_)
  show wpAny _ _ (specialOf (Value.ref X) (Str.ofString "__length_hint__") >>= _) _ _ _
  refine wpAny_bind (Lh.here ?_)
  refine wpAny_pure ?_
  show wpAny _ _ (rule "list.extend.makes-room" >>= fun _ => Builtin.List.listTouch (.ref a) >>= fun _ =>
    again (.builtin "list.extend.loop" ⟨[.ref a, .ref X, .none], []⟩)) _ _ _
  refine wpAny_bind (wpAny_rule ?_)
  refine wpAny_bind ?_
  show wpAny _ _ (updateSeq a (·.push .none) >>= fun _ => updateSeq a (·.pop)) _ _ _
  refine wpAny_bind (updA (qs := [.none]) C3 .head rfl (by decide) (Nat.zero_le _) fun s4 C4 => ?_)
  refine updA (qs := []) C4 .head rfl (Nat.zero_le _) (by decide) fun s5 C5 => ?_
  refine wpAny_pure ⟨plainId_quiet PySem.F.plain_extend_loop _, ?_⟩
  refine codeAny_mono (loopLex (Q := fun v s' => v = .none ∧ Q (.ref a) s') (E := E) (Rel := Rel) G R.in1 (by lia) hl hfr hF hf hk hos d1 d2 ?_ ?_ hE (l.length - k) k st [] [] s5 (Nat.le_refl _) hkl hst C5 .nil ?_ ?_) fun r s' z => z
  · intro b hb
    rcases List.mem_append.mp (show b ∈ [X, DX, x, dx] ++ [a] from hb) with h | h
    · exact hfrs b h
    · rw [List.mem_singleton.mp h]; exact fun q => aF a q rfl
  · intro s' vs' ws h1 h1b h2 h3
    exact ⟨rfl, hQ a s' vs' ws hnew h1 h1b h2 h3⟩
  · simp; lia
  · intro r hr
    have := hRel r hr
    cases r with
    | ok ws => simpa [Except.map] using this
    | error e => exact this
end
end
-- MSplit
section
theorem ShF.setSplit {x D1 D2 : Addr} {mA : Str → Option Value} (hF : ShF x D1 D2 false [35] mA) (tv : Tok) : ShF x D1 D2 true [] (Mine.upd (Mine.upd mA "whitespace_split" (.bool true)) "commenters" (.str (S []) tv)) := by
  obtain ⟨a1, a2, a3, a4, ⟨t5, a5⟩, ⟨wc, t6, a6, w1, w2, w3⟩, ⟨t7, a7⟩, a8, ⟨t9, a9⟩, ⟨t10, a10⟩, ⟨t11, a11⟩, a12, ⟨t13, a13⟩, a14, a15, ⟨t16, a16⟩, a17, a18, a19⟩ := hF
  exact ⟨by walk_at "mm lk", by walk_at "mm lk", by walk_at "mm lk", by walk_at "mm lk", ⟨_, by walk_at "mm lk"⟩, ⟨wc, _, by walk_at "mm lk", w1, w2, w3⟩, ⟨_, by walk_at "mm lk"⟩, by walk_at "mm lk", ⟨_, by walk_at "mm lk"⟩, ⟨_, by walk_at "mm lk"⟩, ⟨_, by walk_at "mm lk"⟩, by walk_at "mm lk", ⟨_, by walk_at "mm lk"⟩, by walk_at "mm lk", by walk_at "mm lk", ⟨_, by walk_at "mm lk"⟩, by walk_at "mm lk", by walk_at "mm lk", by walk_at "mm lk"⟩
theorem At.adopt {O : OsState} {g : Heap} {L : Addr} {m : Str → Option Value} {own news : Own} {s : Shared} (C : At O g L m own s) (h1 : ∀ p ∈ news, ∃ o, s.heap.get? p.1 = some o ∧ p.2 o) (h2 : ∀ p ∈ news, g.get? p.1 = none ∧ p.1 ≠ L) (nd : ((own ++ news).map Prod.fst).Nodup) : At O g L m (own ++ news) s :=
  ⟨C.keep, fun p hp => by rcases List.mem_append.mp hp with h | h; exact C.ow p h; exact h1 p h, C.ns, C.gL, fun p hp => by rcases List.mem_append.mp hp with h | h; exact C.gown p h; exact h2 p h, nd, C.os, C.gens⟩
theorem spSplit {w : World} {A : Around} {E : Value → Shared → Prop} {s : Shared} {l : List Nat} {t : Tok} {j : Nat} {Q : Value → Shared → Prop} (G0 : Gd w s.heap) (R : Rm j A) (hj : j ≤ 36) (hg : s.gens = #[]) (hl : l.length ≤ 400000)
    (hFr : ∀ l0, A.frames = some l0 → FrH l0 [] s.heap)
    (hQ : ∀ l0 a s' vs' ws, A.frames = some l0 → KeepsBut (frs l0) s.heap s'.heap → s'.os = s.os → s'.gens = #[] → (∀ L' ∈ frs l0, ∀ m', s.heap.Ns L' m' → s'.heap.Ns L' m') → s.heap.get? a = none → ListIn s'.heap a vs' → StrsV vs' ws → TokAll l (some 32) (.ok ws) → Q (.ref a) s')
    (hE : ∀ l0 e s' msg, A.frames = some l0 → TokAll l (some 32) (.error msg) → ErrR l0 [] msg s s' e → E e s') :
    wpAny (Md w) A (call (.ref 777) [.str (S l) t]) Q E s := by
  obtain ⟨l0, hl0⟩ := R.frames
  have h770 := G0.K _ _ (show (KK w).lookup 770 = some (k770 PG w.params) by kernel_rfl)
  refine wpAny_call (codeKv (binds := [("s", .str (S l) t), ("comments", .bool false), ("posix", .bool true)]) G0 R (by walk_at "om") (lk777 w) (cd777 w) (BindsTo.of_defaults rfl h770 rfl rfl rfl) rfl (by kernel_rfl) rfl rfl rfl hg [] (by simp) .nil ?_)
  intro L s' C
  change At s.os s.heap L _ [] s' at C
  have R' := R.deeper (envOf "split" (fnScope (stAt PG 30)) L 777 (.ref 776))
  walk_at "xs"
  walk_at "mms"
  refine wpAny_Call_ofName ?_
  walk_at "mm"
  refine callWith_KW G0.K (by kernel_rfl) (by rfl) ?_
  walk_at "mms"
  refine kwAll_cons ?_
  walk_at "mms"
  refine kwAll_nil ?_
  rename At _ _ _ _ _ _ => C
  refine ⟨(C.gd G0).K, ?_⟩
  refine newShlex C G0 ?_
  intro X DX s1 C1
  clear C
  have nx : ∀ a ∈ [X, DX], s.heap.get? a = none := in2 (C1.gown _ (.head _)).1 (C1.gown _ (.tail _ (.head _))).1
  have nd1 := nd2 C1.nd
  refine spShInit (l := l) (G0.keeps (keepsDrop C1.keep nx)) (C1.gd G0) (R'.underTC 765 _ _) (by walk_at "om") C1.gens (by walk_at "om") (C1.get (.head _)) (C1.get (.tail _ (.head _))) nd1 ?_
  intro mA x dx D1 D2 s2 k2 o2 g2 hDX hF hst htok hln hnew hnd hx hdx hD1 hD2
  refine ⟨rfl, ?_⟩
  have C2 := C1.growBut (P' := nsP shKs mA) (.tail .head) k2 hDX o2 (g2.trans C1.gens.symm)
  have inS1 : ∀ b o, s1.heap.get? b = some o → b ∉ [x, dx, D1, D2] := fun b o e q => by rw [hnew b q] at e; cases e
  obtain ⟨oX, hoX, _⟩ := C1.get (.head _)
  obtain ⟨oDX, hoDX, _⟩ := C1.get (.tail _ (.head _))
  obtain ⟨oL, _, _, hoL, _⟩ := C1.ns
  have neX := no4 (inS1 _ _ hoX)
  have neDX := no4 (inS1 _ _ hoDX)
  have neL := no4 (inS1 _ _ hoL)
  have hnd2 := nd4 hnd
  have C3 := C2.adopt (news := [(x, instP 630 dx), (dx, sioP l 0)]) (in2 hx hdx)
    (in2 ⟨none_of_keeps C1.keep (hnew _ (.head _)), fun q => neL.1 q.symm⟩ ⟨none_of_keeps C1.keep (hnew _ (.tail _ (.head _))), fun q => neL.2.1 q.symm⟩)
    (nd4' ⟨⟨nd1, neX.1, neX.2.1⟩, ⟨neDX.1, neDX.2.1⟩, hnd2.1.1⟩)
  clear C1 C2
  obtain ⟨C4, kg, low⟩ := C3.rebase (List.Sublist.refl _)
  clear C3
  have inBase : ∀ D, s2.heap.get? D = some deqO → D ≠ L → D ≠ X → D ≠ DX → D ≠ x → D ≠ dx → (base s2 L [(X, instP 765 DX), (DX, nsP shKs mA), (x, instP 630 dx), (dx, sioP l 0)]).get? D = some deqO := by
    intro D e h1 h2 h3 h4 h5
    exact low D _ e h1 (by simp; exact ⟨h2, h3, h4, h5⟩)
  have hD1' := inBase D1 hD1 (fun q => neL.2.2.1 q.symm) (fun q => neX.2.2.1 q.symm) (fun q => neDX.2.2.1 q.symm) (fun q => hnd2.1.2.1 q.symm) (fun q => hnd2.2.1.1 q.symm)
  have hD2' := inBase D2 hD2 (fun q => neL.2.2.2 q.symm) (fun q => neX.2.2.2 q.symm) (fun q => neDX.2.2.2 q.symm) (fun q => hnd2.1.2.2 q.symm) (fun q => hnd2.2.1.2 q.symm)
  change At s.os (base s2 L [(X, instP 765 DX), (DX, nsP shKs mA), (x, instP 630 dx), (dx, sioP l 0)]) L _ (tokOwn X DX x dx l 0 mA) s2 at C4
  change Keeps s.heap (base s2 L [(X, instP 765 DX), (DX, nsP shKs mA), (x, instP 630 dx), (dx, sioP l 0)]) at kg
  generalize base s2 L [(X, instP 765 DX), (DX, nsP shKs mA), (x, instP 630 dx), (dx, sioP l 0)] = g' at *
  clear low inBase
  have G' := G0.keeps kg
  obtain ⟨a1, a2, a3, a4, ⟨t5, a5⟩, ⟨wc, t6, a6, w1, w2, w3⟩, ⟨t7, a7⟩, a8, ⟨t9, a9⟩, ⟨t10, a10⟩, ⟨t11, a11⟩, a12, ⟨t13, a13⟩, a14, a15, ⟨t16, a16⟩, a17, a18, a19⟩ := id hF
  have hF0 := hF
  obtain ⟨tst, hst⟩ := hst
  obtain ⟨ttk, htok⟩ := htok
  obtain ⟨nln, tln, hln⟩ := hln
  walk_at "mms"
  rename At _ _ _ _ _ _ => C5
  have C6 := C5.closeLex (st := some 32) (hF0.setSplit _) ⟨_, by walk_at "mm lk", ⟨_, rfl⟩⟩ ⟨_, by walk_at "mm lk"⟩ ⟨_, _, by walk_at "mm lk"⟩
  have hfrL : ∀ env ∈ l0, ∃ L0 o, env.frame = some L0 ∧ s.heap.get? L0 = some o := fun env he => let ⟨_, L0, o, h1, _, h3, _⟩ := hFr l0 hl0 env he; ⟨L0, o, h1, h3⟩
  have fr0 : ∀ b ∈ frs l0, ∃ o, s.heap.get? b = some o := by
    intro b hb
    obtain ⟨env, he, h1⟩ := List.mem_filterMap.mp hb
    obtain ⟨L0, o, h2, h3⟩ := hfrL env he
    rw [h1] at h2; cases h2; exact ⟨o, h3⟩
  have free := lexFree C6
  have hF' : FrH l0 [] g' := fun env he => let ⟨k1, L0, o, h1, _, h3, h4⟩ := hFr l0 hl0 env he; ⟨k1, L0, o, h1, List.not_mem_nil, kg _ _ h3, h4⟩
  refine callListLex (s0 := { s with heap := g' }) (chg0 := []) (l0 := l0) (env := envOf "split" (fnScope (stAt PG 30)) L 777 (.ref 776)) (Rel := TokAll l (some 32)) G' R' (by walk_at "om") hl (by show A.frames.map _ = _; rw [hl0]; rfl) hF' rfl rfl rfl hD1' hD2' ?_ ?_ C6 (Nat.zero_le _) (.inl rfl) ?_ ?_ (fun r hr => hr)
  · intro b hb q
    obtain ⟨o, ho⟩ := fr0 b q
    have := kg _ _ ho
    rw [(free b hb).1] at this; cases this
  · intro b hb
    obtain ⟨o, ho⟩ := fr0 b hb
    exact ⟨o, kg _ _ ho, List.not_mem_nil⟩
  · intro a s3 vs' ws hnw C7 hns hsv hta
    walk_at "ho"
    refine hQ l0 a s3 vs' ws hl0 (fun b o hb e => C7.keep b o ?_) C7.os C7.gens (fun L' hL m' hm => hns L' hL List.not_mem_nil m' ?_) (none_of_keeps (fun b o e => C6.keep b o (kg b o e)) hnw) (C7.listIn (.head _)) hsv hta
    · show (dropA g' ([] ++ frs l0)).get? b = some o
      rw [dropA_get, if_neg (by simpa using hb)]
      exact kg _ _ e
    · obtain ⟨o, es, ep, e, r⟩ := hm
      exact ⟨o, es, ep, kg _ _ e, r⟩
  · intro sk own e s3 msg Ck hfree hta X2
    walk_at "ho"
    refine errThrough (s0 := { s with heap := g' }) (chg0 := []) (Ef := E) hl0 Ck hF' rfl rfl hfree X2 (fun s4 X4 => hE l0 e s4 msg hl0 hta ?_)
    obtain ⟨⟨ea, t9, tk9, rfl, hfl, htp, hb⟩, ho, hg4, hns⟩ := X4
    have st : (dropA s.heap ([] ++ frs l0)).StaysIn (dropA g' ([] ++ frs l0)) := by
      intro b o e
      rw [dropA_get] at e ⊢
      split at e
      · cases e
      · rename_i n; rw [if_neg n]; exact kg _ _ e
    refine ⟨⟨ea, t9, tk9, rfl, flyingW_base st hfl, htp, fresh_of_stays st hb⟩, ho, hg4, fun L' hL hn m' hm => hns L' hL hn m' ?_⟩
    obtain ⟨o, es, ep, e, r⟩ := hm
    exact ⟨o, es, ep, kg _ _ e, r⟩
end
-- MPlain
section
noncomputable def txt1 (x : Mk) : List Nat := if x.2 = true then [92, x.1] else [x.1]
noncomputable def txt (ms : List Mk) : List Nat := (ms.map txt1).flatten
theorem txt_app (a b : List Mk) : txt (a ++ b) = txt a ++ txt b := by simp [txt]
theorem txt_cons (a : Mk) (b : List Mk) : txt (a :: b) = txt1 a ++ txt b := rfl
theorem txt_bare (l : List Nat) : txt (bare l) = l := by
  induction l with
  | nil => rfl
  | cons c l ih => unfold bare at *; rw [List.map_cons, txt_cons, ih]; rfl
noncomputable def TokOk : Tk → Prop
  | .one c => c ≠ 42 ∧ c ≠ 63 ∧ c ≠ 45
  | .set _ b => 45 ∉ b
  | _ => True
theorem toks_ok : ∀ (n : Nat) (p : List Nat), p.length ≤ n → 45 ∉ p → ∀ t ∈ toks p, TokOk t := by
  intro n
  induction n with
  | zero => intro p hp hno; cases p with
    | nil => rw [toks]; simp
    | cons c r => simp at hp
  | succ n ih =>
    intro p hp hno
    cases p with
    | nil => rw [toks]; simp
    | cons c r =>
      have hc : c ≠ 45 := fun e => hno (by rw [e]; exact List.mem_cons_self ..)
      have hr : 45 ∉ r := fun e => hno (List.mem_cons_of_mem _ e)
      rw [toks_cons]
      have hl := lexTok_len c r
      have h1 : TokOk (lexTok c r).1 ∧ 45 ∉ (lexTok c r).2 := by
        unfold lexTok
        split
        · exact ⟨trivial, hr⟩
        split
        · exact ⟨trivial, hr⟩
        split
        · split
          · exact ⟨fun e => hr (List.mem_of_mem_drop (List.mem_of_mem_take e)), fun e => hr (List.mem_of_mem_drop e)⟩
          · exact ⟨⟨by decide, by decide, by decide⟩, hr⟩
        · rename_i a b _; exact ⟨⟨a, b, hc⟩, hr⟩
      intro t ht
      rcases List.mem_cons.mp ht with rfl | ht
      · exact h1.1
      · exact ih _ (by simp at hp; lia) h1.2 t ht
theorem amp_iff (c : Nat) : amp c = true ↔ c = 38 ∨ c = 124 ∨ c = 126 := by unfold amp; simp
theorem txt1_slash (c : Nat) : txt1 (c, decide (c ∈ [92, 38, 126, 124])) = eB c := by
  unfold txt1 eB
  by_cases h : c = 92
  · subst h; rfl
  by_cases h2 : amp c = true
  · rw [if_neg h, if_pos h2, if_pos]
    have := (amp_iff c).mp h2
    simp; lia
  · rw [if_neg h, if_neg h2, if_neg]
    have : ¬ (c = 38 ∨ c = 124 ∨ c = 126) := fun q => h2 ((amp_iff c).mpr q)
    simp; lia
theorem body_tail (neg : Bool) (b : List Nat) : ∀ k, (neg = true ∨ 0 < k) → txt (b.mapIdx fun i c => (c, slashedAt neg (i + k) c)) = subT (dblB b) := by
  induction b with
  | nil => intro k _; rfl
  | cons c t ih =>
    intro k hk
    rw [List.mapIdx_cons, txt_cons, sd_cons]
    have h := ih (k + 1) (by lia)
    rw [show (fun i (c : Nat) => (c, slashedAt neg (i + 1 + k) c)) = fun i c => (c, slashedAt neg (i + (k + 1)) c) from by funext i c; rw [Nat.add_assoc, Nat.add_comm 1 k], h]
    congr 1
    rw [← txt1_slash]
    congr 2
    unfold slashedAt
    rcases hk with hk | hk
    · subst hk; simp
    · rw [show decide (0 + k = 0) = false by simp; lia]; simp
theorem body_txt (neg : Bool) (b : List Nat) : txt (bare (if neg then [91, 94] else [91]) ++ bodyMarks neg b ++ bare [93]) = setT neg b := by
  rw [txt_app, txt_app, txt_bare, txt_bare]
  unfold setT bodyMarks
  cases neg with
  | true =>
    have := body_tail true b 0 (.inl rfl)
    simp only [Nat.add_zero] at this
    rw [this]; rfl
  | false =>
    cases b with
    | nil => rfl
    | cons c t =>
      rw [List.mapIdx_cons, txt_cons, body_tail false t 1 (.inr (by lia)), sd_cons]
      have e : txt1 (c, slashedAt false 0 c) = (if (c :: t).head? = some 94 ∨ (c :: t).head? = some 91 then [92] else []) ++ eB c := by
        by_cases h : c = 94 ∨ c = 91
        · rcases h with rfl | rfl <;> rfl
        · rw [if_neg (by simpa using h), List.nil_append, ← txt1_slash]
          congr 2
          unfold slashedAt
          have : decide (c ∈ [94, 91]) = false := by simpa using h
          rw [this]; simp
      rw [e]
      simp
theorem part_txt (t : Tk) (h : TokOk t) (hs : t ≠ .star) (ps : List Part) : partStep ps t = ps ++ [some (txt (marksOf t))] := by
  cases t with
  | star => exact absurd rfl hs
  | qm => rfl
  | one c =>
    show ps ++ [some (escT c)] = ps ++ [some (txt1 (c, decide (c ∈ specials)) ++ [])]
    obtain ⟨a, b, d⟩ := h
    rw [List.append_nil]
    congr 3
    have f1 : ∀ x ∈ esc58, x ∈ specials ∨ x = 42 ∨ x = 63 ∨ x = 45 := by decide +kernel
    have f2 : ∀ x ∈ specials, x ∈ esc58 := by decide +kernel
    have hi : c ∈ esc58 ↔ c ∈ specials := ⟨fun q => (f1 c q).resolve_right fun z => z.elim a fun z => z.elim b d, f2 c⟩
    unfold escT txt1
    by_cases q : c ∈ specials
    · rw [if_pos (hi.mpr q), if_pos (decide_eq_true q)]
    · rw [if_neg (fun e => q (hi.mp e)), if_neg (by rw [decide_eq_true_eq]; exact q)]
  | set neg body => show ps ++ [some (setT neg body)] = _; rw [← body_txt]; rfl
theorem marks_ne (t : Tk) (hs : t ≠ .star) : marksOf t ≠ [] := by
  cases t with
  | star => exact absurd rfl hs
  | qm => simp [marksOf]
  | one c => simp [marksOf]
  | set neg b => simp [marksOf, bare]
theorem enc_app : ∀ a b : List (List (List Nat)), enc (a ++ b) = enc a ++ enc b
  | [], _ => rfl
  | g :: r, b => by rw [List.cons_append, enc, enc_app r b, enc]; simp
theorem splitP_some (l : List (List Nat)) (r : List Part) : splitP (l.map some ++ r) = (l ++ (splitP r).1, (splitP r).2) := by
  induction l with
  | nil => rfl
  | cons a l ih => rw [List.map_cons, List.cons_append, splitP, ih]; rfl
theorem splitP_enc (s0 : List (List Nat)) (gs : List (List (List Nat))) : splitP (s0.map some ++ enc gs) = (s0, gs) := by
  rw [splitP_some]
  suffices splitP (enc gs) = ([], gs) by rw [this]; simp
  induction gs with
  | nil => rfl
  | cons g r ih => rw [enc, splitP, splitP_some, ih]; simp
noncomputable def GrpR (g : List (List Nat)) (x : List Mk) : Prop := g.flatten = txt x ∧ (g = [] ↔ x = [])
noncomputable def nz (ds : List (List Mk)) : List (List Mk) := ds.filter fun x => !x.isEmpty
theorem nz_snoc_nil (ds : List (List Mk)) : nz (ds ++ [[]]) = nz ds := by simp [nz]
theorem nz_snoc (ds : List (List Mk)) {x : List Mk} (h : x ≠ []) : nz (ds ++ [x]) = nz ds ++ [x] := by
  cases x with
  | nil => exact absurd rfl h
  | cons a l => simp [nz]
noncomputable def FoldI (ps : List Part) (x : List (List Mk) × List Mk) : Prop :=
  match x.1 with
  | [] => ∃ s0 : List (List Nat), ps = s0.map some ∧ s0.flatten = txt x.2
  | d :: dr => ∃ s0 gs, ps = List.map some s0 ++ enc gs ∧ s0.flatten = txt d ∧ All2 GrpR gs (nz dr ++ [x.2])
theorem fold_step (ps : List Part) (ds : List (List Mk)) (ms : List Mk) (t : Tk) (ht : TokOk t) (h : FoldI ps (ds, ms)) : FoldI (partStep ps t) (stepS (ds, ms) t) := by
  by_cases hs : t = .star
  · subst hs
    cases ds with
    | nil =>
      obtain ⟨s0, rfl, e⟩ := h
      show FoldI (if (s0.map some).getLast? = some none then s0.map some else s0.map some ++ [none]) ([ms], [])
      rw [if_neg (by rw [List.getLast?_map]; cases s0.getLast? <;> simp)]
      exact ⟨s0, [[]], rfl, e, .cons ⟨rfl, by simp⟩ .nil⟩
    | cons d dr =>
      obtain ⟨s0, gs, rfl, e, A⟩ := h
      show FoldI (if (s0.map some ++ enc gs).getLast? = some none then s0.map some ++ enc gs else s0.map some ++ enc gs ++ [none]) (d :: (dr ++ [ms]), [])
      obtain ⟨k, g, rfl, A1, A2⟩ := A.unsnoc
      by_cases hm : ms = []
      · subst hm
        have hg : g = [] := A2.2.mpr rfl
        subst hg
        rw [if_pos (by rw [enc_app, show enc [[]] = [none] from rfl, ← List.append_assoc, List.getLast?_concat])]
        refine ⟨s0, k ++ [[]], rfl, e, ?_⟩
        rw [nz_snoc_nil]
        exact A1.append (.cons ⟨rfl, by simp⟩ .nil)
      · have hg : g ≠ [] := fun q => hm (A2.2.mp q)
        have e3 : (s0.map some ++ enc (k ++ [g])).getLast? ≠ some none := by
          obtain ⟨g', z, rfl⟩ : ∃ g' z, g = g' ++ [z] := ⟨g.dropLast, g.getLast hg, (List.dropLast_concat_getLast hg).symm⟩
          rw [enc_app, show enc [g' ++ [z]] = none :: ((g' ++ [z]).map some ++ []) from rfl, List.append_nil, List.map_append, ← List.cons_append, ← List.append_assoc, ← List.append_assoc, List.map_singleton, List.getLast?_concat]
          simp
        rw [if_neg e3]
        refine ⟨s0, k ++ [g] ++ [[]], ?_, e, ?_⟩
        · rw [enc_app (k ++ [g]), ← List.append_assoc]; rfl
        · rw [nz_snoc _ hm]
          exact (A1.append (.cons A2 .nil)).append (.cons ⟨rfl, by simp⟩ .nil)
  · rw [part_txt t ht hs]
    have e0 : stepS (ds, ms) t = (ds, ms ++ marksOf t) := by cases t <;> first | exact absurd rfl hs | rfl
    rw [e0]
    cases ds with
    | nil =>
      obtain ⟨s0, rfl, e⟩ := h
      exact ⟨s0 ++ [txt (marksOf t)], by simp, by rw [txt_app]; simp [e]⟩
    | cons d dr =>
      obtain ⟨s0, gs, rfl, e, A⟩ := h
      obtain ⟨k, g, rfl, A1, A2⟩ := A.unsnoc
      refine ⟨s0, k ++ [g ++ [txt (marksOf t)]], ?_, e, A1.append (.cons ⟨?_, ?_⟩ .nil)⟩
      · rw [enc_app, enc_app]; simp [enc]
      · rw [txt_app, List.flatten_append, A2.1]; simp
      · simp [marks_ne t hs]
theorem fold_inv (l : List Tk) (h : ∀ t ∈ l, TokOk t) : ∀ (ps : List Part) (x : List (List Mk) × List Mk), FoldI ps x → FoldI (l.foldl partStep ps) (l.foldl stepS x) := by
  induction l with
  | nil => intro ps x h; exact h
  | cons t l ih => intro ps x hx; exact ih (fun t ht => h t (List.mem_cons_of_mem _ ht)) _ _ (fold_step ps x.1 x.2 t (h t (List.mem_cons_self ..)) hx)
theorem mid_txt (x : List Mk) (h : x ≠ []) (g : List (List Nat)) (e : g.flatten = txt x) : txt (midMarks x) = midT g := by
  unfold midMarks midT
  rw [if_neg h, txt_app, txt_app, txt_bare, txt_bare, e]
theorem out_txt : ∀ (fs : List (List Mk)) (gs : List (List (List Nat))) (z : List Mk), (∀ x ∈ fs, x ≠ []) → All2 GrpR gs (fs ++ [z]) → outR gs = txt ((fs.map midMarks).flatten) ++ ([46, 42] ++ txt z)
  | [], gs, z, _, A => by
    cases A with
    | cons h t => cases t; rw [outR, h.1]; rfl
  | x :: fs, gs, z, hx, A => by
    cases A with
    | @cons g _ gr _ h t =>
      have ih := out_txt fs gr z (fun y hy => hx y (List.mem_cons_of_mem _ hy)) t
      obtain ⟨g', r, rfl⟩ : ∃ g' r, gr = g' :: r := by
        cases gr with
        | nil => have := t.length; simp at this
        | cons a b => exact ⟨a, b, rfl⟩
      rw [outR, ih, List.map_cons, List.flatten_cons, txt_app, mid_txt x (hx x (List.mem_cons_self ..)) g h.1, List.append_assoc]
theorem nz_mid (dr : List (List Mk)) : ((nz dr).map midMarks).flatten = (dr.map midMarks).flatten := by
  induction dr with
  | nil => rfl
  | cons a l ih =>
    cases a with
    | nil => show ((nz l).map midMarks).flatten = midMarks [] ++ (l.map midMarks).flatten; rw [ih]; rfl
    | cons b c =>
      show ((nz ((b :: c) :: l)).map midMarks).flatten = midMarks (b :: c) ++ (l.map midMarks).flatten
      rw [← ih]
      simp [nz]
theorem nz_ne (dr : List (List Mk)) : ∀ x ∈ nz dr, x ≠ [] := by
  intro x hx q
  subst q
  unfold nz at hx
  simp at hx
theorem textLaw (p : List Nat) (hno : 45 ∉ p) : textOf p = txt (markedOf p) := by
  have h := fold_inv (toks p) (toks_ok p.length p (Nat.le_refl _) hno) [] ([], []) ⟨[], rfl, rfl⟩
  unfold textOf markedOf strandsOf partsOf
  generalize (toks p).foldl partStep [] = ps at h
  generalize (toks p).foldl stepS ([], []) = x at h
  obtain ⟨ds, ms⟩ := x
  cases ds with
  | nil =>
    obtain ⟨s0, rfl, e⟩ := h
    have e1 : splitP (s0.map some) = (s0, []) := by have := splitP_enc s0 []; rwa [enc, List.append_nil] at this
    rw [e1]
    show joined s0 [] = _
    unfold joined
    dsimp only
    rw [List.nil_append, if_neg (by simp)]
    simp only [txt_app, txt_bare, List.headD_cons, e, outR, List.append_nil]
    rw [show txt [(90, true)] = [92, 90] from rfl]; simp
  | cons d dr =>
    obtain ⟨s0, gs, rfl, e, A⟩ := h
    rw [splitP_enc]
    show joined s0 gs = _
    unfold joined
    dsimp only
    rw [out_txt (nz dr) gs ms (nz_ne dr) A, nz_mid]
    have e2 : midsOf (d :: dr ++ [ms]) = dr := by unfold midsOf; simp
    rw [e2, if_pos (by simp), List.getLastD_concat, show (d :: dr ++ [ms]).headD [] = d from rfl]
    simp only [txt_app, txt_bare, e, List.append_assoc]
    rfl
noncomputable def goodM (x : Mk) : Prop := (x.2 = false → x.1 ≠ 92) ∧ (x.2 = true → x.1 ≠ 39 ∧ x.1 ≠ 34)
theorem marked_all (P : Mk → Prop) (hb : ∀ c ∈ ([40, 63, 115, 58, 62, 46, 42, 41] : List Nat), P (c, false)) (hz : P (90, true)) (p : List Nat) (h : ∀ t ∈ toks p, ∀ x ∈ marksOf t, P x) : ∀ x ∈ markedOf p, P x := by
  have hf : ∀ (l : List Tk), (∀ t ∈ l, ∀ x ∈ marksOf t, P x) → ∀ (x : List (List Mk) × List Mk), (∀ s ∈ x.1 ++ [x.2], ∀ y ∈ s, P y) → ∀ s ∈ (l.foldl stepS x).1 ++ [(l.foldl stepS x).2], ∀ y ∈ s, P y := by
    intro l
    induction l with
    | nil => intro _ x hx; exact hx
    | cons t l ih =>
      intro hl x hx
      refine ih (fun t ht => hl t (List.mem_cons_of_mem _ ht)) _ ?_
      have ht := hl t (List.mem_cons_self ..)
      have h1 : ∀ s ∈ x.1, ∀ y ∈ s, P y := fun s hs => hx s (List.mem_append_left _ hs)
      have h2 : ∀ y ∈ x.2, P y := hx x.2 (List.mem_append_right _ (List.mem_singleton.mpr rfl))
      have g : ∀ s ∈ x.1 ++ [x.2 ++ marksOf t], ∀ y ∈ s, P y := by
        intro s hs y hy
        rcases List.mem_append.mp hs with hs | hs
        · exact h1 s hs y hy
        · rw [List.mem_singleton.mp hs] at hy
          rcases List.mem_append.mp hy with hy | hy
          · exact h2 y hy
          · exact ht y hy
      cases t with
      | star =>
        intro s hs y hy
        have hs : s ∈ (x.1 ++ [x.2]) ++ [[]] := hs
        rcases List.mem_append.mp hs with hs | hs
        · exact hx s hs y hy
        · rw [List.mem_singleton.mp hs] at hy; exact absurd hy List.not_mem_nil
      | qm => exact g
      | one c => exact g
      | set n b => exact g
  have hs := hf (toks p) h ([], []) (by simp)
  have hs : ∀ s ∈ strandsOf p, ∀ y ∈ s, P y := hs
  have hbare : ∀ l : List Nat, (∀ c ∈ l, c ∈ ([40, 63, 115, 58, 62, 46, 42, 41] : List Nat)) → ∀ y ∈ bare l, P y := by
    intro l hl y hy
    obtain ⟨c, hc, rfl⟩ := List.mem_map.mp hy
    exact hb c (hl c hc)
  have hmid : ∀ s ∈ strandsOf p, ∀ y ∈ midMarks s, P y := by
    intro s hs' y hy
    unfold midMarks at hy
    split at hy
    · exact absurd hy List.not_mem_nil
    · rcases List.mem_append.mp hy with hy | hy
      · rcases List.mem_append.mp hy with hy | hy
        · exact hbare _ (by decide) y hy
        · exact hs s hs' y hy
      · exact hbare _ (by decide) y hy
  intro y hy
  unfold markedOf at hy
  rcases List.mem_append.mp hy with hy | hy
  · rcases List.mem_append.mp hy with hy | hy
    · rcases List.mem_append.mp hy with hy | hy
      · rcases List.mem_append.mp hy with hy | hy
        · exact hbare _ (by decide) y hy
        · cases e : strandsOf p with
          | nil => rw [e] at hy; exact absurd hy List.not_mem_nil
          | cons d l => rw [e] at hy; exact hs d (by rw [e]; exact List.mem_cons_self ..) y hy
      · split at hy
        · rcases List.mem_append.mp hy with hy | hy
          · obtain ⟨s, hs1, hs2⟩ := List.mem_flatten.mp hy
            obtain ⟨s0, hs3, rfl⟩ := List.mem_map.mp hs1
            exact hmid s0 (List.mem_of_mem_drop (List.mem_of_mem_take hs3)) y hs2
          · rcases List.mem_append.mp hy with hy | hy
            · exact hbare _ (by decide) y hy
            · rcases List.eq_nil_or_concat (strandsOf p) with e | ⟨k, z, e⟩
              · rw [e] at hy; exact absurd hy List.not_mem_nil
              · rw [e, List.concat_eq_append, List.getLastD_concat] at hy
                exact hs z (by rw [e]; simp) y hy
        · exact absurd hy List.not_mem_nil
    · exact hbare _ (by decide) y hy
  · rw [List.mem_singleton.mp hy]; exact hz
theorem marked_good (p : List Nat) : ∀ x ∈ markedOf p, goodM x := by
  refine marked_all goodM (by unfold goodM; decide) (by unfold goodM; decide) p fun t _ x hx => ?_
  cases t with
  | star => exact absurd hx List.not_mem_nil
  | qm => rw [List.mem_singleton.mp hx]; unfold goodM; decide
  | one c =>
    rw [List.mem_singleton.mp hx]
    refine ⟨fun h e => ?_, fun h => ⟨fun e => ?_, fun e => ?_⟩⟩ <;> (dsimp only at h e; subst e; revert h; decide)
  | set neg b =>
    rcases List.mem_append.mp hx with hx | hx
    · rcases List.mem_append.mp hx with hx | hx
      · obtain ⟨c, hc, rfl⟩ := List.mem_map.mp hx
        have : c = 91 ∨ c = 94 := by cases neg <;> simp at hc <;> lia
        rcases this with rfl | rfl <;> (unfold goodM; decide)
      · obtain ⟨i, hi, rfl⟩ := List.mem_mapIdx.mp hx
        generalize b[i] = c
        refine ⟨fun h e => ?_, fun h => ⟨fun e => ?_, fun e => ?_⟩⟩
        · dsimp only at h e; subst e; simp [slashedAt] at h
        · dsimp only at h e; subst e; simp [slashedAt] at h
        · dsimp only at h e; subst e; simp [slashedAt] at h
    · obtain ⟨c, hc, rfl⟩ := List.mem_map.mp hx
      rw [List.mem_singleton.mp hc]; unfold goodM; decide
theorem TokAll.congr {i i' : List Nat} {st st' : Option Nat} {r : Except (List Nat) (List (List Nat))} (h : TokAll i st r) (e : rt i st [] false 32 = rt i' st' [] false 32) : TokAll i' st' r := by
  cases h with
  | fin h => exact .fin (e ▸ h)
  | more h n t => exact .more (e ▸ h) n t
  | bad h => exact .bad (e ▸ h)
noncomputable def Aft (R : TokR) (r : Except (List Nat) (List (List Nat))) : Prop :=
  match R with
  | .bad m => r = .error m
  | .tok t _ rest st' => ∃ r', TokAll rest st' r' ∧ r = r'.map (t :: ·)
theorem rt_ne : ∀ (i : List Nat) (s : Nat) (tk : List Nat) (q : Bool) (e : Nat) {t : List Nat} {q' : Bool} {rest : List Nat} {st' : Option Nat}, (s = 97 ∧ (tk ≠ [] ∨ q = true)) ∨ s = 39 ∨ s = 34 ∨ (s = 92 ∧ (e = 97 ∨ e = 34)) → rt i (some s) tk q e = .tok t q' rest st' → ¬ (q' = false ∧ t = [])
  | [], s, tk, q, e, t, q', rest, st', hs, h => by
    rw [rt] at h
    rcases hs with ⟨rfl, hs⟩ | rfl | rfl | ⟨rfl, he⟩
    · rw [if_neg (by decide), if_neg (by decide), if_neg (by decide)] at h
      injection h with h1 h2
      subst h1 h2
      rintro ⟨rfl, rfl⟩; simp at hs
    · rw [if_neg (by decide), if_pos (by decide)] at h; cases h
    · rw [if_neg (by decide), if_pos (by decide)] at h; cases h
    · rw [if_neg (by decide), if_neg (by decide), if_pos (by decide)] at h; cases h
  | c :: r, s, tk, q, e, t, q', rest, st', hs, h => by
    rw [rt] at h
    rcases hs with ⟨rfl, hs⟩ | hs
    · rw [if_neg (by decide), if_neg (by decide), if_neg (by decide)] at h
      split at h
      · try rw [if_pos hs] at h
        injection h with h1 h2
        subst h1 h2
        rintro ⟨rfl, rfl⟩; simp at hs
      split at h
      · rename_i hc
        exact rt_ne r c tk q e (.inr (by simp [qtL] at hc; lia)) h
      split at h
      · exact rt_ne r 92 tk q 97 (by simp) h
      · exact rt_ne r 97 _ q e (.inl ⟨rfl, .inl (by simp)⟩) h
    · have h39 : s = 39 ∨ s = 34 → ¬ (q' = false ∧ t = []) := by
        intro hs
        rw [if_neg (by lia), if_pos (by simp [qtL]; lia)] at h
        split at h
        · exact rt_ne r 97 tk true e (.inl ⟨rfl, .inr rfl⟩) h
        split at h
        · rename_i hc
          obtain ⟨rfl, rfl⟩ := hc
          exact rt_ne r 92 tk true 34 (by simp) h
        · exact rt_ne r s _ true e (.inr (by lia)) h
      rcases hs with hs | hs | ⟨rfl, he⟩
      · exact h39 (.inl hs)
      · exact h39 (.inr hs)
      · rw [if_neg (by decide), if_neg (by decide), if_pos rfl] at h
        rcases he with rfl | rfl
        · exact rt_ne r 97 _ q 97 (.inl ⟨rfl, .inl (by simp)⟩) h
        · exact rt_ne r 34 _ q 34 (by simp) h
theorem aft_of {i i' : List Nat} {st : Option Nat} {s : Nat} {tk : List Nat} {q : Bool} {e : Nat} {r : Except (List Nat) (List (List Nat))} (h : TokAll i st r) (hs : (s = 97 ∧ (tk ≠ [] ∨ q = true)) ∨ s = 39 ∨ s = 34 ∨ (s = 92 ∧ (e = 97 ∨ e = 34)))
    (hr : rt i st [] false 32 = rt i' (some s) tk q e) : Aft (rt i' (some s) tk q e) r := by
  cases h with
  | fin h => rw [hr] at h; exact absurd ⟨rfl, rfl⟩ (rt_ne _ _ _ _ _ hs h)
  | more h n t => rw [hr] at h; rw [h]; exact ⟨_, t, rfl⟩
  | bad h => rw [hr] at h; rw [h]; exact rfl
noncomputable def finW (st : WSt) : Except (List Nat) (List (List Nat)) := if st.2.2 = [] then .ok st.1 else .error ncq
theorem map_map_app (xs : List (List Nat)) (t : List Nat) (r : Except (List Nat) (List (List Nat))) : (r.map (t :: ·)).map (xs ++ ·) = r.map ((xs ++ [t]) ++ ·) := by
  cases r with
  | error e => rfl
  | ok v => show Except.ok (xs ++ (t :: v)) = Except.ok (xs ++ [t] ++ v); simp
theorem stepW_ws (xs : List (List Nat)) (b : Bool) {c : Nat} (hc : c ∈ wsL) : stepW (xs, b, []) (c, false) = (xs, false, []) := by
  unfold stepW
  rw [if_pos]
  simpa [wsL] using hc
theorem stepW_qt (xs : List (List Nat)) (tk : List Nat) {c : Nat} (hc : c ∈ qtL) : stepW (xs ++ [tk], true, []) (c, false) = (xs ++ [tk], true, [c]) := by
  have : c = 39 ∨ c = 34 := by simp [qtL] at hc; lia
  rcases this with rfl | rfl <;> simp [stepW]
theorem stepW_new (xs : List (List Nat)) {x : Mk} (h : x.2 = true ∨ x.1 ∉ wsL) : stepW (xs, false, []) x = stepW (xs ++ [[]], true, []) x := by
  have e : (decide (([] : List Nat) = []) && (!x.2 && decide (x.1 ∈ [32, 9, 13, 10]))) = false := by
    rcases h with h | h
    · rw [h]; simp
    · rw [decide_eq_false (p := x.1 ∈ [32, 9, 13, 10]) h]; simp
  unfold stepW
  dsimp only
  rw [e]
  rfl
theorem stepW_app (xs : List (List Nat)) (tk : List Nat) {c : Nat} (h1 : c ∉ wsL) (h2 : c ∉ qtL) : stepW (xs ++ [tk], true, []) (c, false) = (xs ++ [tk ++ [c]], true, []) := by
  unfold stepW
  dsimp only
  rw [decide_eq_false (p := c ∈ [32, 9, 13, 10]) h1, decide_eq_false (p := c ∈ [39, 34]) h2]
  simp [lastApp_snoc]
theorem stepW_sl (xs : List (List Nat)) (tk : List Nat) (c : Nat) : stepW (xs ++ [tk], true, []) (c, true) = (xs ++ [tk ++ [c]], true, []) := by
  simp [stepW, lastApp_snoc]
theorem stepW_in (xs : List (List Nat)) (tk : List Nat) (c s : Nat) : stepW (xs ++ [tk], true, [s]) (c, false) = if c = s then (xs ++ [tk], true, []) else (xs ++ [tk ++ [c]], true, [s]) := by
  by_cases h : c = s
  · subst h; simp [stepW]
  · simp [stepW, h, lastApp_snoc]
theorem stepW_in39 (xs : List (List Nat)) (tk : List Nat) (c : Nat) : stepW (xs ++ [tk], true, [39]) (c, true) = (xs ++ [tk ++ [92, c]], true, [39]) := by
  simp [stepW, lastApp_snoc]
theorem stepW_in34 (xs : List (List Nat)) (tk : List Nat) (c : Nat) : stepW (xs ++ [tk], true, [34]) (c, true) = if c = 92 then (xs ++ [tk ++ [c]], true, [34]) else (xs ++ [tk ++ [92, c]], true, [34]) := by
  by_cases h : c = 92
  · subst h; simp [stepW, lastApp_snoc]
  · simp [stepW, h, lastApp_snoc]
theorem tokAll_none {r : Except (List Nat) (List (List Nat))} (h : TokAll [] none r) : r = .ok [] := by
  have e : rt [] none [] false 32 = .tok [] false [] none := by unfold rt; rfl
  cases h with
  | fin h => rfl
  | more h n t => rw [e] at h; injection h with h1 h2; exact absurd ⟨h2.symm, h1.symm⟩ n
  | bad h => rw [e] at h; cases h
noncomputable def mkS (s : Nat) : List Nat := if s = 97 then [] else [s]
theorem words_sim : ∀ (ms : List Mk), (∀ x ∈ ms, goodM x) →
    (∀ xs r, TokAll (txt ms) (some 32) r → r.map (xs ++ ·) = finW (ms.foldl stepW (xs, false, []))) ∧
    (∀ xs tk q s e r, (s = 97 ∧ (tk ≠ [] ∨ q = true)) ∨ s = 39 ∨ s = 34 → Aft (rt (txt ms) (some s) tk q e) r → r.map (xs ++ ·) = finW (ms.foldl stepW (xs ++ [tk], true, mkS s))) := by
  intro ms
  induction ms with
  | nil =>
    intro _
    refine ⟨fun xs r h0 => ?_, fun xs tk q s e r hs h => ?_⟩
    · have h : TokAll [] (some 32) r := h0
      clear h0
      have e : rt [] (some 32) [] false 32 = .tok [] false [] none := by unfold rt; rw [if_pos rfl]
      cases h with
      | fin h => show Except.ok (xs ++ []) = _; rw [List.append_nil]; rfl
      | more h n t => rw [e] at h; injection h with h1 h2; exact absurd ⟨h2.symm, h1.symm⟩ n
      | bad h => rw [e] at h; cases h
    · have h : Aft (rt [] (some s) tk q e) r := h
      rw [rt] at h
      rcases hs with ⟨rfl, hs⟩ | rfl | rfl
      · rw [if_neg (by decide), if_neg (by decide), if_neg (by decide)] at h
        obtain ⟨r', t, rfl⟩ := h
        rw [tokAll_none t]
        rfl
      · rw [if_neg (by decide), if_pos (by decide)] at h
        obtain rfl := h
        rfl
      · rw [if_neg (by decide), if_pos (by decide)] at h
        obtain rfl := h
        rfl
  | cons x l ih =>
    intro hg
    obtain ⟨c, sl⟩ := x
    obtain ⟨ih1, ih2⟩ := ih fun y hy => hg y (List.mem_cons_of_mem _ hy)
    have g := hg _ (List.mem_cons_self ..)
    have inner : ∀ xs tk q s e r, (s = 97 ∧ (tk ≠ [] ∨ q = true)) ∨ s = 39 ∨ s = 34 → Aft (rt (txt ((c, sl) :: l)) (some s) tk q e) r → r.map (xs ++ ·) = finW (((c, sl) :: l).foldl stepW (xs ++ [tk], true, mkS s)) := by
      intro xs tk q s e r hs h
      rw [List.foldl_cons]
      cases sl with
      | false =>
        have h : Aft (rt (c :: txt l) (some s) tk q e) r := h
        rw [rt] at h
        have hc := g.1 rfl
        dsimp only at hc
        rcases hs with ⟨rfl, hs⟩ | hs
        · rw [if_neg (by decide), if_neg (by decide), if_neg (by decide)] at h
          rw [show mkS 97 = [] from rfl]
          split at h
          · rename_i w
            try rw [if_pos hs] at h
            obtain ⟨r', t, rfl⟩ := h
            rw [map_map_app, ih1 _ _ t, stepW_ws _ _ w]
          rename_i w
          split at h
          · rename_i w2
            have w3 : c = 39 ∨ c = 34 := by simp [qtL] at w2; lia
            rw [ih2 xs tk q c e r (.inr w3) h, stepW_qt _ _ w2, show mkS c = [c] from if_neg (by lia)]
          rename_i w2
          try rw [if_neg hc] at h
          rw [ih2 xs (tk ++ [c]) q 97 e r (.inl ⟨rfl, .inl (by simp)⟩) h, stepW_app _ _ w w2]
          rfl
        · rw [if_neg (by lia), if_pos (by simp [qtL]; lia)] at h
          rw [show mkS s = [s] from if_neg (by lia), stepW_in]
          split at h
          · rename_i w
            rw [if_pos w, ih2 xs tk true 97 e r (.inl ⟨rfl, .inr rfl⟩) h]
            rfl
          · rename_i w
            rw [if_neg (fun q => hc q.1)] at h
            rw [if_neg w, ih2 xs (tk ++ [c]) true s e r (.inr hs) h, show mkS s = [s] from if_neg (by lia)]
      | true =>
        have h : Aft (rt (92 :: c :: txt l) (some s) tk q e) r := h
        rw [rt] at h
        have hc := g.2 rfl
        dsimp only at hc
        rcases hs with ⟨rfl, hs⟩ | rfl | rfl
        · rw [if_neg (by decide), if_neg (by decide), if_neg (by decide), if_neg (by decide), if_neg (by decide), if_pos rfl, rt, if_neg (by decide), if_neg (by decide), if_pos rfl, if_neg (by simp [qtL])] at h
          rw [show mkS 97 = [] from rfl, stepW_sl, ih2 xs (tk ++ [c]) q 97 97 r (.inl ⟨rfl, .inl (by simp)⟩) h]
          rfl
        · rw [if_neg (by decide), if_pos (by decide), if_neg (by decide), if_neg (by decide), rt, if_neg (by decide), if_pos (by decide), if_neg hc.1, if_neg (by simp)] at h
          rw [show mkS 39 = [39] from rfl, stepW_in39, ih2 xs _ true 39 e r (.inr (.inl rfl)) h, List.append_assoc]
          rfl
        · rw [if_neg (by decide), if_pos (by decide), if_neg (by decide), if_pos ⟨rfl, rfl⟩, rt, if_neg (by decide), if_neg (by decide), if_pos rfl] at h
          rw [show mkS 34 = [34] from rfl, stepW_in34]
          by_cases w : c = 92
          · rw [if_neg (by simp [w])] at h
            rw [if_pos w, ih2 xs _ true 34 34 r (.inr (.inr rfl)) h]
            rfl
          · rw [if_pos ⟨by decide, w, hc.2⟩] at h
            rw [if_neg w, ih2 xs _ true 34 34 r (.inr (.inr rfl)) h, List.append_assoc]
            rfl
    refine ⟨fun xs r h => ?_, inner⟩
    cases sl with
    | false =>
      have h : TokAll (c :: txt l) (some 32) r := h
      have hc := g.1 rfl
      dsimp only at hc
      by_cases w : c ∈ wsL
      · rw [List.foldl_cons, stepW_ws _ _ w]
        refine ih1 xs r (h.congr ?_)
        rw [rt, if_pos rfl, if_pos w, if_neg (by simp)]
      · rw [List.foldl_cons, stepW_new _ (.inr w)]
        by_cases w2 : c ∈ qtL
        · have w3 : c = 39 ∨ c = 34 := by simp [qtL] at w2; lia
          have e : rt (c :: txt l) (some 32) [] false 32 = rt (txt l) (some c) [] false 32 := by
            rw [rt, if_pos rfl, if_neg w, if_neg hc, if_pos w2]
          have h2 := aft_of h (.inr (by lia)) e
          rw [stepW_qt _ _ w2, ih2 xs [] false c 32 r (.inr w3) h2, show mkS c = [c] from if_neg (by lia)]
        · have e : rt (c :: txt l) (some 32) [] false 32 = rt (txt l) (some 97) [c] false 32 := by
            rw [rt, if_pos rfl, if_neg w, if_neg hc, if_neg w2]
          have h2 := aft_of h (.inl ⟨rfl, .inl (by simp)⟩) e
          rw [stepW_app _ _ w w2, ih2 xs [c] false 97 _ r (.inl ⟨rfl, .inl (by simp)⟩) h2]
          rfl
    | true =>
      have h : TokAll (92 :: c :: txt l) (some 32) r := h
      have e : rt (92 :: c :: txt l) (some 32) [] false 32 = rt (txt l) (some 97) [c] false 97 := by
        rw [rt, if_pos rfl, if_neg (by decide), if_pos rfl, rt, if_neg (by decide), if_neg (by decide), if_pos rfl, if_neg (by simp [qtL])]
        rfl
      have h2 := aft_of h (.inl ⟨rfl, .inl (by simp)⟩) e
      rw [List.foldl_cons, stepW_new _ (.inl rfl), stepW_sl, ih2 xs [c] false 97 _ r (.inl ⟨rfl, .inl (by simp)⟩) h2]
      rfl
theorem wordsLaw (p : List Nat) {r : Except (List Nat) (List (List Nat))} (h : TokAll (txt (markedOf p)) (some 32) r) : r = if (runW (markedOf p)).2.2 = [] then .ok (runW (markedOf p)).1 else .error ncq := by
  have := (words_sim _ (marked_good p)).1 [] r h
  have e : r.map (([] : List (List Nat)) ++ ·) = r := by cases r <;> rfl
  rw [e] at this
  exact this
theorem markLen (p : List Nat) : (markedOf p).length ≤ 7 * p.length + 20 := by
  have h := strands_wT p
  have hn := strands_ne p
  unfold markedOf
  dsimp only
  cases e : strandsOf p with
  | nil => exact absurd e hn
  | cons d l =>
    rw [e] at h
    cases l with
    | nil => simp [wT, bare] at h ⊢; lia
    | cons a l =>
      obtain ⟨k, z, hz⟩ : ∃ k z, a :: l = k ++ [z] := ⟨(a :: l).dropLast, (a :: l).getLast (by simp), (List.dropLast_concat_getLast (by simp)).symm⟩
      rw [hz] at h ⊢
      have e2 : midsOf (d :: (k ++ [z])) = k := by unfold midsOf; simp
      have h3 := flat_len k
      rw [e2, if_pos (by simp), List.headD_cons, ← List.cons_append, List.getLastD_concat]
      rw [← List.singleton_append, wT_app, wT_app] at h
      have h4 : ∀ x : List Mk, wT [x] = x.length + 7 := fun x => by simp [wT]
      rw [h4, h4] at h
      simp only [bare, List.length_map, List.length_append, List.length_cons, List.length_nil]
      lia
noncomputable def tot (xs : List (List Nat)) : Nat := (xs.map fun x => x.length + 1).sum
theorem tot_app (a b : List (List Nat)) : tot (a ++ b) = tot a + tot b := by simp [tot]
theorem glue_tot (c : Nat) : ∀ xs : List (List Nat), (glue [c] xs).length ≤ tot xs
  | [] => by simp [glue]
  | [x] => by simp [glue, tot]
  | x :: y :: r => by
    have := glue_tot c (y :: r)
    rw [glue]
    simp [tot] at this ⊢; lia
theorem lastApp_tot {xs : List (List Nat)} (h : xs ≠ []) (d : List Nat) : tot (lastApp xs d) = tot xs + d.length := by
  obtain ⟨k, z, rfl⟩ : ∃ k z, xs = k ++ [z] := ⟨xs.dropLast, xs.getLast h, (List.dropLast_concat_getLast h).symm⟩
  rw [lastApp_snoc, tot_app, tot_app]
  simp [tot]; lia
theorem step_tot (st : WSt) (x : Mk) (h : st.2.1 = true → st.1 ≠ []) : ((stepW st x).2.1 = true → (stepW st x).1 ≠ []) ∧ tot (stepW st x).1 ≤ tot st.1 + 3 := by
  have h1 : (if st.2.1 = true then st.1 else st.1 ++ [[]]) ≠ [] := by split; exact h ‹_›; simp
  have h2 : tot (if st.2.1 = true then st.1 else st.1 ++ [[]]) ≤ tot st.1 + 1 := by
    split
    · lia
    · rw [tot_app]; simp [tot]
  unfold stepW
  split
  · exact ⟨fun q => by simp at q, Nat.le_add_right _ _⟩
  dsimp only
  split
  · exact ⟨fun _ => h1, by dsimp only; lia⟩
  split
  · exact ⟨fun _ => h1, by dsimp only; lia⟩
  split
  · refine ⟨fun _ => by unfold lastApp; simp, ?_⟩
    dsimp only
    rw [lastApp_tot h1]; simp only [List.length_cons, List.length_nil]; lia
  · refine ⟨fun _ => by unfold lastApp; simp, ?_⟩
    dsimp only
    rw [lastApp_tot h1]; simp only [List.length_cons, List.length_nil]; lia
theorem totLen (ms : List Mk) : tot (runW ms).1 ≤ 3 * ms.length := by
  unfold runW
  suffices ∀ (st : WSt), (st.2.1 = true → st.1 ≠ []) → tot (ms.foldl stepW st).1 ≤ tot st.1 + 3 * ms.length by
    have := this ([], false, []) (fun q => by simp at q)
    simpa [tot] using this
  induction ms with
  | nil => intro st _; simp
  | cons x l ih =>
    intro st h
    obtain ⟨a, b⟩ := step_tot st x h
    have := ih (stepW st x) a
    rw [List.foldl_cons, List.length_cons]; lia
theorem glueLen (ms : List Mk) : (glue [42] (runW ms).1).length ≤ 3 * ms.length := Nat.le_trans (glue_tot 42 _) (totLen ms)
theorem tot_sum (xs : List (List Nat)) : (xs.map fun x => x.length).sum + xs.length = tot xs := by
  induction xs with
  | nil => rfl
  | cons a l ih => simp only [tot, List.map_cons, List.sum_cons, List.length_cons] at ih ⊢; lia
theorem marked_no (p : List Nat) (hno : 45 ∉ p) : ∀ x ∈ markedOf p, x.1 ≠ 45 := by
  refine marked_all (fun x => x.1 ≠ 45) (by decide) (by decide) p fun t ht x hx => ?_
  have ok := toks_ok p.length p (Nat.le_refl _) hno t ht
  cases t with
  | star => exact absurd hx List.not_mem_nil
  | qm => rw [List.mem_singleton.mp hx]; decide
  | one c => rw [List.mem_singleton.mp hx]; exact ok.2.2
  | set neg b =>
    rcases List.mem_append.mp hx with hx | hx
    · rcases List.mem_append.mp hx with hx | hx
      · obtain ⟨c, hc, rfl⟩ := List.mem_map.mp hx
        have : c = 91 ∨ c = 94 := by cases neg <;> simp at hc <;> lia
        rcases this with rfl | rfl <;> decide
      · obtain ⟨i, hi, rfl⟩ := List.mem_mapIdx.mp hx
        exact fun e => ok (e ▸ List.getElem_mem hi)
    · obtain ⟨c, hc, rfl⟩ := List.mem_map.mp hx
      rw [List.mem_singleton.mp hc]; decide
theorem step_no (st : WSt) (x : Mk) (hx : x.1 ≠ 45) (h : ∀ z ∈ st.1, 45 ∉ z) : ∀ z ∈ (stepW st x).1, 45 ∉ z := by
  have h1 : ∀ z ∈ (if st.2.1 = true then st.1 else st.1 ++ [[]]), 45 ∉ z := by
    split
    · exact h
    · intro z hz
      rcases List.mem_append.mp hz with hz | hz
      · exact h z hz
      · rw [List.mem_singleton.mp hz]; exact List.not_mem_nil
  have h2 : ∀ (xs : List (List Nat)) (d : List Nat), (∀ z ∈ xs, 45 ∉ z) → 45 ∉ d → ∀ z ∈ lastApp xs d, 45 ∉ z := by
    intro xs d hxs hd z hz
    unfold lastApp at hz
    rcases List.mem_append.mp hz with hz | hz
    · exact hxs z (List.dropLast_subset _ hz)
    · rw [List.mem_singleton.mp hz]
      intro q
      rcases List.mem_append.mp q with q | q
      · rcases List.eq_nil_or_concat xs with e | ⟨k, y, e⟩
        · rw [e] at q; exact absurd q List.not_mem_nil
        · rw [e, List.concat_eq_append, List.getLastD_concat] at q
          exact hxs y (by rw [e]; simp) q
      · exact hd q
  unfold stepW
  split
  · exact h
  dsimp only
  split
  · exact h1
  split
  · exact h1
  split
  · exact h2 _ _ h1 (by simp; exact fun e => hx e.symm)
  · exact h2 _ _ h1 (by simp; exact fun e => hx e.symm)
theorem glueNo (p : List Nat) (hno : 45 ∉ p) : 45 ∉ glue [42] (runW (markedOf p)).1 := by
  have h : ∀ (ms : List Mk), (∀ x ∈ ms, x.1 ≠ 45) → ∀ st : WSt, (∀ z ∈ st.1, 45 ∉ z) → ∀ z ∈ (ms.foldl stepW st).1, 45 ∉ z := by
    intro ms
    induction ms with
    | nil => intro _ st h; exact h
    | cons x l ih => intro hl st h; exact ih (fun y hy => hl y (List.mem_cons_of_mem _ hy)) _ (step_no st x (hl x (List.mem_cons_self ..)) h)
  have h := h _ (marked_no p hno) ([], false, []) (fun z hz => absurd hz List.not_mem_nil)
  have g : ∀ xs : List (List Nat), (∀ z ∈ xs, 45 ∉ z) → 45 ∉ glue [42] xs := by
    intro xs
    induction xs with
    | nil => intro _; exact List.not_mem_nil
    | cons x r ih =>
      intro hx q
      cases r with
      | nil => exact hx x (List.mem_cons_self ..) q
      | cons y r =>
        rw [glue] at q
        rcases List.mem_append.mp q with q | q
        · rcases List.mem_append.mp q with q | q
          · exact hx x (List.mem_cons_self ..) q
          · simp at q
        · exact ih (fun z hz => hx z (List.mem_cons_of_mem _ hz)) q
  exact g _ h
theorem txt_len (ms : List Mk) : (txt ms).length ≤ 2 * ms.length := by
  induction ms with
  | nil => simp [txt]
  | cons a l ih =>
    rw [txt_cons, List.length_append, List.length_cons]
    have : (txt1 a).length ≤ 2 := by unfold txt1; split <;> simp
    lia
end
-- MTry
section
noncomputable def lawBody : List Stmt := match stAt PG 38 with | .FunctionDef _ _ b _ _ _ _ _ _ _ => (match b with | _ :: .For _ _ body _ _ :: _ => body | _ => []) | _ => []
noncomputable def tryS : Stmt := match lawBody with | _ :: _ :: _ :: _ :: s :: _ => s | _ => .Pass default
theorem At.growF {O : OsState} {g : Heap} {L : Addr} {m : Str → Option Value} {own : Own} {s s' : Shared} (C : At O g L m own s) (k : KeepsBut [L] s.heap s'.heap) (kn : s'.heap.Ns L m) (ho : s'.os = s.os) (hg : s'.gens = #[]) : At O g L m own s' :=
  ⟨fun b o e => k b o (fun q => by rw [List.mem_singleton.mp q, C.gL] at e; cases e) (C.keep b o e),
   fun p hp => let ⟨o, e, r⟩ := C.ow p hp; ⟨o, k _ _ (fun q => (C.gown p hp).2 (List.mem_singleton.mp q)) e, r⟩, kn, C.gL, C.gown, C.nd, ho.trans C.os, hg⟩
theorem tryTold {w : World} {A : Around} {E : Value → Shared → Prop} {s : Shared} {O : OsState} {g : Heap} {L : Addr} {m : Str → Option Value} {own : Own} {j : Nat} {l : List Nat} {t : Tok} {Q : Flow → Shared → Prop} (G : Gd w g) (R : Rm j A) (hj : j ≤ 20) (hA : A.frames = some [])
    (C : At O g L m own s) (ht : m "text" = some (.str (S l) t)) (hl : l.length ≤ 400000)
    (h1 : ∀ a vs ws m' s', TokAll l (some 32) (.ok ws) → At O g L m' ((a, lst vs) :: own) s' → StrsV vs ws → m' "told" = some (.ref a) → (∀ x : Str, x ≠ "told" → m' x = m x) → Q .next s')
    (h2 : ∀ msg tk m' s', TokAll l (some 32) (.error msg) → At O g L m' own s' → m' "told" = some (.str (S msg) tk) → (∀ x : Str, x ≠ "told" → x ≠ "fault" → m' x = m x) → Q .next s') :
    wpAny (Md w) (A.deeper (envOf "law" (fnScope (stAt PG 38)) L 822 (.ref 821))) (exec tryS (envOf "law" (fnScope (stAt PG 38)) L 822 (.ref 821))) Q E s := by
  have R' := R.deeper (envOf "law" (fnScope (stAt PG 38)) L 822 (.ref 821))
  have hfr : (A.deeper (envOf "law" (fnScope (stAt PG 38)) L 822 (.ref 821))).frames = some [envOf "law" (fnScope (stAt PG 38)) L 822 (.ref 821)] := by show A.frames.map _ = _; rw [hA]; rfl
  refine wpAny_Try_except ?_
  walk_at "xs"
  walk_at "mms"
  rename At _ _ _ _ _ _ => C
  have hF0 : FrH [envOf "law" (fnScope (stAt PG 38)) L 822 (.ref 821)] [] _ := fun e he => by
    obtain rfl := List.mem_singleton.mp he
    obtain ⟨o, es, ep, h1, h2, _⟩ := C.ns
    exact ⟨(by show ScopeKind.function ≠ ScopeKind.module; decide), L, o, rfl, List.not_mem_nil, h1, fun vs q => by rw [h2] at q; cases q⟩
  have frL : frs [envOf "law" (fnScope (stAt PG 38)) L 822 (.ref 821)] = [L] := rfl
  refine spSplit (C.gd G) R' (by walk_at "om") C.gens hl (fun l0 h0 => by rw [hfr] at h0; injection h0 with h0; subst h0; exact hF0) ?_ ?_
  · intro l0 a s1 vs ws h0 k1 o1 g1 n1 na hla hS hta
    rw [hfr] at h0; injection h0 with h0; subst h0
    rw [frL] at k1 n1
    have C1 := C.growF k1 (n1 L (.head _) _ C.ns) o1 g1
    have nk : ∀ p ∈ own, p.1 ≠ a := fun p hp q => by obtain ⟨o, e, _⟩ := C.ow p hp; rw [q, na] at e; cases e
    have C2 := C1.adopt (news := [(a, lst vs)]) (by intro p hp; obtain rfl := List.mem_singleton.mp hp; exact hla) (by
        intro p hp; obtain rfl := List.mem_singleton.mp hp
        refine ⟨none_of_keeps C.keep na, fun q => ?_⟩
        obtain ⟨o, _, _, e, _⟩ := C.ns
        dsimp only at q
        rw [← q, na] at e; cases e) (by
        rw [List.map_append, List.nodup_append]
        refine ⟨C.nd, by simp, fun x hx y hy e => ?_⟩
        obtain ⟨p, hp, rfl⟩ := List.mem_map.mp hx
        obtain rfl := List.mem_singleton.mp hy
        exact nk p hp e)
    have C3 := C2.perm (List.perm_append_comm (l₁ := own) (l₂ := [(a, lst vs)]))
    change At O g L m ((a, lst vs) :: own) s1 at C3
    clear C C1 C2
    walk_at "mms"
    rename At _ _ _ _ _ _ => C
    exact h1 a vs ws _ _ hta C hS (by walk_at "mm lk") (fun x hx => Up.ne (by assumption) hx)
  · intro l0 e s1 msg h0 hta X
    rw [hfr] at h0; injection h0 with h0; subst h0
    obtain ⟨⟨ea, tp, tk, rfl, hfl, htp, hb⟩, ho, hg, hns⟩ := X
    rw [frL] at hfl hb hns
    have hns := hns L (.head _) List.not_mem_nil _ C.ns
    walk_at "ho"
    show wpAny _ _ (noteFrame _ _) _ _ _
    refine wpAny_looks_onW hfr rfl hfl fun h4 hheld4 u4 => ?_
    refine wpAny_landsW (s := { s1 with heap := h4 }) hheld4 fun h5 hfl5 u5 => ?_
    obtain ⟨ob, hob, hobc⟩ := hfl5.there
    have kOf : ∀ {h : Heap} {x : Addr} {c a0 : Value}, Heap.FlyingW (dropA s.heap ([] ++ [L])) [envOf "law" (fnScope (stAt PG 38)) L 822 (.ref 821)] x c a0 h → KeepsBut [L] s.heap h := fun hf b o hb e => hf.1 b o (by rw [dropA_get, if_neg (by simpa using hb)]; exact e)
    have C5 := C.growF (s' := { s1 with heap := h5 }) (kOf hfl5) (u5.ns (u4.ns hns)) ho hg
    refine wpAny_handleBy_builtin_as (X := "ValueError") (T := "ValueError") (b := true) PySem.F.isExc_ValueError PySem.F.notTuple_ValueError (by rw [isSubtype_type]; kernel_rfl) ?_
    rename At _ _ _ _ _ _ => C0
    walk_at "mm"
    refine ⟨rfl, ⟨ob, hob, hobc⟩, ?_⟩
    rw [if_pos rfl]
    refine lands_againW hfl5 fun h6 hfl6 u6 => ?_
    have C6 := C.growF (s' := { s1 with heap := h6 }) (kOf hfl6) (u6.ns (u5.ns (u4.ns hns))) ho hg
    obtain ⟨oe, ws, hoe, hoec, hoed, hoe0⟩ := hfl6.first
    obtain ⟨ot, nt, hot, hotc, hotd⟩ := (htp.slots (u4.trans u5)).slots u6
    have hbe := hfl6.2.1
    have inS : ∀ b o, s.heap.get? b = some o → b ≠ L → b ≠ ea ∧ b ≠ tp := by
      intro b o e hL
      have e' : (dropA s.heap ([] ++ [L])).get? b = some o := by rw [dropA_get, if_neg (by simpa using hL)]; exact e
      exact ⟨fun q => (by rw [q, hbe] at e'; cases e'), fun q => (by rw [q, hb] at e'; cases e')⟩
    have eL : ea ≠ L := by
      rintro rfl
      obtain ⟨o, es, ep, e1, e2, _⟩ := C6.ns
      rw [show h6.get? _ = _ from hoe] at e1; cases e1
      rw [hoed] at e2; cases e2
    have tL : tp ≠ L := by
      rintro rfl
      obtain ⟨o, es, ep, e1, e2, _⟩ := C6.ns
      rw [show h6.get? _ = _ from hot] at e1; cases e1
      rw [hotd] at e2; cases e2
    have et : ea ≠ tp := by
      rintro rfl
      rw [show h6.get? _ = _ from hot] at hoe; cases hoe
      rw [hotd] at hoed; cases hoed
    have C7 := C6.adopt (news := [(ea, fun o => o = oe), (tp, fun o => o = ot)]) (by
        intro p hp
        simp only [List.mem_cons, List.not_mem_nil, or_false] at hp
        rcases hp with rfl | rfl
        · exact ⟨_, hoe, rfl⟩
        · exact ⟨_, hot, rfl⟩) (by
        intro p hp
        simp only [List.mem_cons, List.not_mem_nil, or_false] at hp
        have nn : ∀ x, (∀ b o, s.heap.get? b = some o → b ≠ L → b ≠ x) → x ≠ L → g.get? x = none := by
          intro x hx hL
          cases e : g.get? x with
          | none => rfl
          | some o => exact absurd rfl (hx x o (C.keep _ _ e) hL)
        rcases hp with rfl | rfl
        · exact ⟨nn _ (fun b o e hL => (inS b o e hL).1) eL, eL⟩
        · exact ⟨nn _ (fun b o e hL => (inS b o e hL).2) tL, tL⟩) (by
        rw [List.map_append, List.nodup_append]
        refine ⟨C.nd, by simp [et], fun x hx y hy e => ?_⟩
        obtain ⟨p, hp, rfl⟩ := List.mem_map.mp hx
        obtain ⟨o, eo, _⟩ := C.ow p hp
        have := inS _ _ eo (C.gown p hp).2
        simp only [List.map_cons, List.map_nil, List.mem_cons, List.not_mem_nil, or_false] at hy
        rcases hy with rfl | rfl
        · exact this.1 e
        · exact this.2 e)
    clear C6 C
    walk_at "mms"
    rename At _ _ _ _ _ _ => C
    obtain ⟨_, go, rfl⟩ := C.get (List.mem_append_right _ (.head _))
    obtain ⟨_, gt, rfl⟩ := C.get (List.mem_append_right _ (.tail _ (.head _)))
    refine PySem.P.str_of_exc_one PySem.F.excStr_ValueError (by have := R.units; show A.units + 3 + 2 < 9900; lia) ⟨_, _, go, hoec, hoed, hoe0⟩ ⟨_, _, gt, hotc, hotd⟩ ?_
    walk_at "mms"
    rename At _ _ _ _ _ _ => C
    refine wpAny_nameGoes_keeps (env := envOf "law" (fnScope (stAt PG 38)) L 822 (.ref 821)) (by rfl) C.ns rfl fun h' v hn hs => ?_
    refine h2 msg tk _ _ hta ((C.store hn hs _).drop (List.sublist_append_left _ _)) ?_ (fun x hx hy => ?_)
    · walk_at "mm lk"
    · rw [if_neg hy]; first | exact (Up.ne (by assumption) hx).trans (Up.ne (by assumption) hy) | exact (Up.ne (by assumption) hy).trans (Up.ne (by assumption) hx)
end
-- MLaw0
section
theorem rngNo {it : Addr} {n i : Nat} : ∀ q ∈ [(it, rngIt 0 n (i + 1))], ∀ o, q.2 o → ∀ vs x y, o.data = .fields vs → vs[1]? ≠ some (.str x y) := by
  intro q hq o ho vs x y hd
  obtain rfl := List.mem_singleton.mp hq
  obtain rfl : o = _ := ho
  injection hd with hd
  rw [← hd]; simp [rawInt]
theorem lawRest {w : World} {A : Around} {E : Value → Shared → Prop} {s : Shared} {O : OsState} {g h0 : Heap} {L it a1 : Addr} {m : Str → Option Value} {i n j : Nat} {p : List Nat} {t tt : Tok} {vs1 : List Value} {Q : Flow → Shared → Prop} (G : Gd w g) (R : Rm j A) (hj : j ≤ 20) (hA : A.frames = some [])
    (C : At O g L m [(it, rngIt 0 n (i + 1)), (70, tabP g lamPos lamQ)] s) (hm1 : m "text" = some (.str (S (txt (markedOf p))) tt)) (hm2 : m "marked" = some (.ref a1)) (hm3 : m "pattern" = some (.str (S p) t)) (hpl : p.length ≤ 27780) (hno : 45 ∉ p)
    (l4 : ListIn g a1 vs1) (p4 : PairsN h0 g vs1 (markedOf p))
    (h1 : ∀ g' m' s' p' t', Keeps g g' → At O g' L m' [(it, rngIt 0 n (i + 1)), (70, tabP g' lamPos lamQ)] s' → m' "pattern" = some (.str (S p') t') → p'.length ≤ 21 * p.length + 60 → 45 ∉ p' → Q .next s')
    (h2 : ∀ g' m' s', Keeps g g' → At O g' L m' [(it, rngIt 0 n (i + 1)), (70, tabP g' lamPos lamQ)] s' → Q (.ret (.bool true)) s') :
    wpAny (Md w) (A.deeper (envOf "law" (fnScope (stAt PG 38)) L 822 (.ref 821))) (execs (lawBody.drop 3) (envOf "law" (fnScope (stAt PG 38)) L 822 (.ref 821))) Q E s := by
  have R' := R.deeper (envOf "law" (fnScope (stAt PG 38)) L 822 (.ref 821))
  have hml := markLen p
  have hts := txt_len (markedOf p)
  have hgl := glueLen (markedOf p)
  have hto := totLen (markedOf p)
  have hgn := glueNo p hno
  have hwl : ∀ r, TokAll (txt (markedOf p)) (some 32) r → _ := fun r h => wordsLaw p h
  generalize hMk : markedOf p = ms at *
  walk_at "xs"
  walk_at "mms"
  rename At _ _ _ _ _ _ => C
  refine spWords (C.gd G) R' (by walk_at "om") C.gens (by walk_at "om") (l4.keeps C.keep) (p4.keeps C.keep) ?_
  intro v s1 k1 o1 g1 hv
  obtain ⟨g2, kg2, C2, low⟩ := C.takeT (own0 := [(it, rngIt 0 n (i + 1))]) (pos := lamPos) (q := lamQ) (fun b o _ e => k1 b o e) (let ⟨o, ho, ht⟩ := C.get (.tail _ (.head _)); ⟨o, k1 _ _ ho, ht.keeps fun b o e => k1 b o (C.keep b o e)⟩) o1 g1 rngNo
  change At O g2 L m [(it, rngIt 0 n (i + 1)), (70, tabP g2 lamPos lamQ)] s1 at C2
  have G2 := G.keeps kg2
  by_cases q : (runW ms).2.2 = []
  · rw [if_pos q] at hv
    simp only [if_pos q] at hwl
    obtain ⟨a, ws, rfl, ⟨oa, hoa, ra⟩, hS, na⟩ := hv
    have la : ListIn g2 a ws := ⟨oa, low _ _ hoa na, ra⟩
    clear C low
    refine cutP (fun _ s' => ∃ m', At O g2 L m' [(it, rngIt 0 n (i + 1)), (70, tabP g2 lamPos lamQ)] s' ∧ m' "text" = some (.str (S (txt ms)) tt) ∧ m' "due" = some (.ref a)) (by walk_at "mm"; exact ⟨_, by assumption, by walk_at "mm lk", by walk_at "mm lk"⟩) ?_
    rintro _ s5 ⟨m5, C5, hn1, hn2⟩
    dsimp only
    clear C2
    walk_at "xs"
    refine tryTold G2 R hj hA C5 hn1 (by walk_at "om") ?_ ?_
    · intro a2 vs2 ws2 m6 s6 hta C6 hS2 hm6 hm6'
      have e := hwl _ hta
      injection e with e
      subst e
      have hd6 := (hm6' "due" (by decide)).trans hn2
      clear C5
      dsimp only
      walk_at "xs"
      walk_at "mms"
      rename At _ _ _ _ _ _ => C
      refine neLS (C.listIn (.head _)) (la.keeps C.keep) hS2 hS (R'.cRoom (by walk_at "om")) ?_
      walk_at "mms"
      rw [if_neg (by simp)]
      walk_at "mms"
      rename At _ _ _ _ _ _ => C
      obtain ⟨od, hod, nd, rfl⟩ := la.keeps C.keep
      refine IsiPair.list_str hod rfl ?_
      clear hod
      have C8 := C.toks (s6.toks + 1)
      clear C
      walk_at "mms"
      rename At _ _ _ _ _ _ => C
      refine joinS C (la.keeps C.keep) hS (by have := tot_sum (runW ms).1; simp only [List.length_cons, List.length_nil]; lia) ?_
      intro t9 s9 C9
      clear C
      walk_at "mms"
      rename At _ _ _ _ _ _ => C
      refine h1 g2 _ _ _ _ kg2 (C.drop (List.sublist_cons_self _ _)) (by walk_at "mm lk") (by walk_at "om") hgn
    · intro msg tk m6 s6 hta _ _ _
      cases hwl _ hta
  · rw [if_neg q] at hv
    simp only [if_neg q] at hwl
    obtain ⟨tv, rfl⟩ := hv
    clear C low
    refine cutP (fun _ s' => ∃ m', At O g2 L m' [(it, rngIt 0 n (i + 1)), (70, tabP g2 lamPos lamQ)] s' ∧ m' "text" = some (.str (S (txt ms)) tt) ∧ m' "due" = some (.str (S ncq) tv)) (by walk_at "mm"; exact ⟨_, by assumption, by walk_at "mm lk", by walk_at "mm lk"⟩) ?_
    rintro _ s5 ⟨m5, C5, hn1, hn2⟩
    dsimp only
    clear C2
    walk_at "xs"
    refine tryTold G2 R hj hA C5 hn1 (by walk_at "om") ?_ ?_
    · intro a2 vs2 ws2 m6 s6 hta
      cases hwl _ hta
    · intro msg tk m6 s6 hta C6 hm6 hm6'
      have e := hwl _ hta
      injection e with e
      subst e
      have hd6 := (hm6' "due" (by decide) (by decide)).trans hn2
      clear C5
      dsimp only
      walk_at "xs"
      walk_at "mms"
      rw [if_neg (by simp)]
      walk_at "mms"
      rename At _ _ _ _ _ _ => C
      exact h2 g2 _ _ kg2 C
end
-- MLaw1
section
theorem lawTurn {w : World} {A : Around} {E : Value → Shared → Prop} {s : Shared} {O : OsState} {g : Heap} {L it : Addr} {m : Str → Option Value} {i n j : Nat} {p : List Nat} {t : Tok} {Q : Flow → Shared → Prop} (G : Gd w g) (R : Rm j A) (hj : j ≤ 20) (hA : A.frames = some [])
    (C : At O g L m [(it, rngIt 0 n (i + 1)), (70, tabP g lamPos lamQ)] s) (hp : m "pattern" = some (.str (S p) t)) (hpl : p.length ≤ 27780) (hno : 45 ∉ p)
    (h1 : ∀ g' m' s' p' t', Keeps g g' → At O g' L m' [(it, rngIt 0 n (i + 1)), (70, tabP g' lamPos lamQ)] s' → m' "pattern" = some (.str (S p') t') → p'.length ≤ 21 * p.length + 60 → 45 ∉ p' → Q .next s')
    (h2 : ∀ g' m' s', Keeps g g' → At O g' L m' [(it, rngIt 0 n (i + 1)), (70, tabP g' lamPos lamQ)] s' → Q (.ret (.bool true)) s') :
    wpAny (Md w) (A.deeper (envOf "law" (fnScope (stAt PG 38)) L 822 (.ref 821))) (execs lawBody (envOf "law" (fnScope (stAt PG 38)) L 822 (.ref 821))) Q E s := by
  have R' := R.deeper (envOf "law" (fnScope (stAt PG 38)) L 822 (.ref 821))
  refine wpAny_execs_cons ?_
  walk_at "mms"
  rename At _ _ _ _ _ _ => C
  refine spMarked (C.gd G) R' (by walk_at "om") C.gens (by walk_at "om") ?_
  intro a1 vs1 s1 k1 o1 g1 n1 l1 p1
  have hrng : ∀ q ∈ [(it, rngIt 0 n (i + 1))], ∀ o, q.2 o → ∀ vs x y, o.data = .fields vs → vs[1]? ≠ some (.str x y) := by
    intro q hq o ho vs x y hd
    obtain rfl := List.mem_singleton.mp hq
    obtain rfl : o = _ := ho
    injection hd with hd
    rw [← hd]; simp [rawInt]
  obtain ⟨g2, kg2, C2, low⟩ := C.takeT (own0 := [(it, rngIt 0 n (i + 1))]) (pos := lamPos) (q := lamQ) (fun b o _ e => k1 b o e) (let ⟨o, ho, ht⟩ := C.get (.tail _ (.head _)); ⟨o, k1 _ _ ho, ht.keeps fun b o e => k1 b o (C.keep b o e)⟩) o1 g1 hrng
  have p2 : PairsN s.heap g2 vs1 (markedOf p) := p1.low (fun _ _ e => e) low
  have l2 : ListIn g2 a1 vs1 := by
    obtain ⟨o, ho, r⟩ := l1
    exact ⟨o, low _ _ ho n1, r⟩
  clear low l1 p1 k1
  rename s.heap.get? a1 = none => n1
  clear n1
  clear C
  have G2 := G.keeps kg2
  change At O g2 L m [(it, rngIt 0 n (i + 1)), (70, tabP g2 lamPos lamQ)] s1 at C2
  walk_at "mms"
  rename At _ _ _ _ _ _ => C
  have hml := markLen p
  have p70 : ∀ {g0 : Heap} {m : Str → Option Value} {s1 : Shared}, At O g0 L m [(it, rngIt 0 n (i + 1)), (70, tabP g0 lamPos lamQ)] s1 → (∃ o, s1.heap.get? 70 = some o ∧ tabP (dropA s1.heap [70]) lamPos lamQ o) ∧ Keeps g0 (dropA s1.heap [70]) := by
    intro g0 m s1 C
    obtain ⟨o, ho, ht⟩ := C.get (.tail _ (.head _))
    have k := keepsDrop (l := [70]) C.keep fun a ha => by rw [List.mem_singleton.mp ha]; exact (C.gown _ (.tail _ (.head _))).1
    exact ⟨⟨o, ho, ht.keeps k⟩, k⟩
  refine spTranslate (G2.keeps (p70 C).2) (C.gd G2) R' (by walk_at "om") C.gens (by walk_at "om") hno (p70 C).1 ?_
  intro tt s3 k3 o3 g3 t3
  obtain ⟨g4, kg4, C4, _⟩ := C.takeT (own0 := [(it, rngIt 0 n (i + 1))]) k3 t3 o3 g3 hrng
  clear C
  have G4 := G2.keeps kg4
  have l4 := l2.keeps kg4
  have p4 := p2.keeps kg4
  clear G2 l2 p2
  change At O g4 L _ [(it, rngIt 0 n (i + 1)), (70, tabP g4 lamPos lamQ)] s3 at C4
  rw [textLaw p hno]
  refine cutP (fun _ s' => ∃ m', At O g4 L m' [(it, rngIt 0 n (i + 1)), (70, tabP g4 lamPos lamQ)] s' ∧ m' "text" = some (.str (S (txt (markedOf p))) tt) ∧ m' "marked" = some (.ref a1) ∧ m' "pattern" = some (.str (S p) t)) (by walk_at "mm"; exact ⟨_, by assumption, by walk_at "mm lk", by walk_at "mm lk", by walk_at "mm lk"⟩) ?_
  rintro _ s5 ⟨m5, C5, hm1, hm2, hm3⟩
  walk_at "ho"
  clear C4
  have hts := txt_len (markedOf p)
  have hpl4 := p4.length
  refine wpAny_execs_cons ?_
  refine cutP (fun fl s' => fl = .next ∧ At O g4 L m5 [(it, rngIt 0 n (i + 1)), (70, tabP g4 lamPos lamQ)] s') ?_ (fun fl s' h => ?_)
  rotate_left
  · obtain ⟨rfl, C6⟩ := h
    exact lawRest G4 R hj hA C6 hm1 hm2 hm3 hpl hno l4 p4 (fun g' m' s' p' t' k => h1 g' m' s' p' t' (fun b o e => k b o (kg4 b o (kg2 b o e)))) (fun g' m' s' k => h2 g' m' s' (fun b o e => k b o (kg4 b o (kg2 b o e))))
  generalize hMk : markedOf p = ms at *
  walk_at "hx"
  walk_at "mms"
  refine compR2 (O := O) R'.handled (by kernel_rfl) (by kernel_rfl) rfl (by kernel_rfl) rfl (by intro _; rfl) ?_
  walk_at "mms"
  rename At _ _ _ _ _ _ => C
  refine ⟨_, _, _, _, iterList w a1 vs1, fun i _ acc => acc.length = i ∧ StrsV acc ((ms.take i).map txt1), fun i g g' vs _ x => x, fun i g vs x => x.1, by unfold sizeLine; lia, ⟨rfl, by rw [List.take_zero]; exact .nil⟩, l4.keeps C.keep, C.os, C.gens, ?_⟩
  refine itL C (l4.keeps C.keep) ?_
  intro itc s6 C6 k6 n6
  refine ⟨itc, rfl, n6, k6, C6.ow _ (.head _), C6.os, C6.gens, ?_, ?_⟩
  · intro Lc i7 g7 m7 vs7 v acc s7 hi hvi hkg hI C7
    obtain ⟨⟨c, sl⟩, ep, ⟨ai, tc, rfl, _, li⟩⟩ := p4.get hvi
    have li : ListIn g7 ai [.str (S [c]) tc, .bool sl] := (ListIn.keeps li C.keep).keeps hkg
    refine ownedNo C7 (.head _) ?_
    refine unpackL2 (env := compEnv _ Lc _) C7 R'.handled li ?_
    clear C7 C6
    intro s8 C8
    walk_at "mms"
    obtain ⟨hI1, hI2⟩ := hI
    have e1 : (ms.take (i7 + 1)).map txt1 = (ms.take i7).map txt1 ++ [txt1 (c, sl)] := by rw [List.take_succ, ep]; simp
    walk_at "mif"
    walk_at "mms"
    refine brB (fun q => ?_) (fun q => ?_)
    · subst q
      walk_at "mms"
      rename At _ _ _ _ _ _ => C
      exact ⟨g7, _, fun _ _ e => e, C, by simp [hI1], by rw [e1]; exact hI2.append (.cons ⟨_, rfl⟩ .nil)⟩
    · obtain rfl : sl = false := by simpa using q
      walk_at "mms"
      rename At _ _ _ _ _ _ => C
      exact ⟨g7, _, fun _ _ e => e, C, by simp [hI1], by rw [e1]; exact hI2.append (.cons ⟨_, rfl⟩ .nil)⟩
  · intro acc vs9 s9 hk hn hl9 hI ho9 hg9
    have C9 := C.grow hk (ho9.trans C.os.symm) (hg9.trans C.gens.symm)
    clear C C6
    obtain ⟨hI1, hI2⟩ := hI
    rw [List.take_of_length_le (by walk_at "om")] at hI2
    walk_at "mms"
    rename At _ _ _ _ _ _ => C
    refine joinS C hl9 hI2 (by have : (((ms.map txt1).map List.length)).sum = (txt ms).length := by rw [txt, List.length_flatten]
                               simp only [List.length_nil, Nat.mul_zero, Nat.add_zero]; show (List.map List.length (List.map txt1 ms)).sum ≤ _; lia) ?_
    intro t10 s10 C10
    clear C
    rw [glue_nil]
    walk_at "mms"
    rw [if_neg (by rw [decide_eq_true (show txt ms = (List.map txt1 ms).flatten from rfl)]; simp)]
    walk_at "mms"
    exact ⟨rfl, by assumption⟩
end
-- MLaw
section
noncomputable def bnd : Nat → Nat
  | 0 => 60
  | n + 1 => 21 * bnd n + 60
theorem signOf_ne (k : Nat) : signOf k ≠ 45 := by
  unfold signOf
  split
  · rename_i h
    have : ∀ i : Fin 16, tempt.getD i.1 0 ≠ 45 := by decide
    exact this ⟨k, h⟩
  · dsimp only
    split <;> split <;> lia
noncomputable def SignsV (i : Nat) (_g : Heap) (acc : List Value) : Prop := acc.length = i ∧ ∃ fs : List Nat, fs.length = i ∧ 45 ∉ fs ∧ StrsV acc (fs.map fun c => [c])
theorem flat1 (fs : List Nat) : (fs.map fun c => [c]).flatten = fs := by induction fs with
  | nil => rfl
  | cons a l ih => simp [ih]
theorem spLaw {w : World} {A : Around} {E : Value → Shared → Prop} {s : Shared} {l : Addr} {vs : List Value} {Q : Value → Shared → Prop} (G : Gd w (dropA s.heap [70])) (G0 : Gd w s.heap) (R : Rm 0 A) (hg : s.gens = #[]) (hA : A.frames = some [])
    (hT : ∃ o, s.heap.get? 70 = some o ∧ tabP (dropA s.heap [70]) lamPos lamQ o) (hl : ListIn s.heap l vs) (hv : ∀ v ∈ vs, ∃ i t, v = Value.int i t) (hlen : vs.length ≤ 63)
    (h : ∀ s', KeepsBut [70] s.heap s'.heap → (∃ o, s'.heap.get? 70 = some o ∧ tabP s'.heap lamPos lamQ o) → s'.os = s.os → s'.gens = #[] → Q (.bool true) s') : wpAny (Md w) A (call (.ref 822) [.ref l]) Q E s := by
  refine callK (binds := [("script", .ref l)]) G0 R (by walk_at "om") (lk822 w) (cd822 w) (BindsTo.of_eq rfl) rfl (by kernel_rfl) rfl rfl rfl hg [(70, tabP (dropA s.heap [70]) lamPos lamQ)] (by simpa using hT) (by simp) ?_
  intro L s' C _
  change At s.os (dropA s.heap [70]) L _ _ s' at C
  have R' := R.deeper (envOf "law" (fnScope (stAt PG 38)) L 822 (.ref 821))
  have hl70 : l ≠ 70 := by
    rintro rfl
    obtain ⟨o, ho, n, rfl⟩ := hl
    obtain ⟨o2, ho2, ht⟩ := hT
    rw [ho] at ho2; cases ho2
    rcases ht with e | ⟨_, e, _⟩ <;> cases e
  have hl1 : ListIn (dropA s.heap [70]) l vs := by
    obtain ⟨o, ho, r⟩ := hl
    exact ⟨o, by rw [dropA_get, if_neg (by simpa using hl70)]; exact ho, r⟩
  walk_at "xs"
  walk_at "mms"
  refine compR2 (O := s.os) R'.handled (by kernel_rfl) (by kernel_rfl) rfl (by kernel_rfl) rfl (by intro _; rfl) ?_
  walk_at "mms"
  rename At _ _ _ _ _ _ => C
  refine spFigures (C.gd G) R' (by walk_at "om") C.gens (hl1.keeps C.keep) hv hlen ?_
  intro a vs' s2 k2 o2 g2 hl2 hF2 hlen2
  have C2 := C.grow k2 o2 (g2.trans C.gens.symm)
  clear C
  refine ⟨_, _, _, _, iterList w a vs', SignsV, fun i g g' vs _ x => x, fun i g vs x => x.1, by unfold sizeLine; lia, ⟨rfl, [], rfl, List.not_mem_nil, .nil⟩, hl2, C2.os, C2.gens, ?_⟩
  refine itL C2 hl2 ?_
  intro it s3 C3 k3 n3
  refine ⟨it, rfl, n3, k3, C3.ow _ (.head _), C3.os, C3.gens, ?_, ?_⟩
  · intro Lc i g m vs2 v acc s4 hi hvi hkg hI C4
    obtain ⟨i1, t1, rfl, p0, p1⟩ := hF2 v (List.mem_of_getElem? hvi)
    have Gg : Gd w g := (C2.gd G).keeps hkg
    refine wpAny_pure ?_
    walk_at "mms"
    rename At _ _ _ _ _ _ => C
    refine spSign (C.gd Gg) R' (by walk_at "om") C.gens p0 p1 ?_
    intro t5 s5 k5 o5 g5
    obtain ⟨e1, fs, e2, e3, e4⟩ := hI
    refine ⟨g, _, fun _ _ e => e, C.grow k5 o5 (g5.trans C.gens.symm), by simp [e1], fs ++ [signOf i1.toNat], by simp [e2], ?_, ?_⟩
    · intro q
      rcases List.mem_append.mp q with q | q
      · exact e3 q
      · exact signOf_ne _ (List.mem_singleton.mp q).symm
    · rw [List.map_append]; exact e4.append (.cons ⟨t5, rfl⟩ .nil)
  · intro acc vs3 s4 hk hn hl3 hI ho4 hg4
    have C5 := C2.grow hk (ho4.trans C2.os.symm) (hg4.trans C2.gens.symm)
    clear C2 C3
    obtain ⟨e1, fs, e2, e3, e4⟩ := hI
    walk_at "mms"
    rename At _ _ _ _ _ _ => C
    have hfl : fs.length ≤ 60 := by lia
    refine joinS C hl3 e4 (by simp only [List.map_map, List.length_map, List.length_nil, Nat.mul_zero, Nat.add_zero]; rw [show ((List.length ∘ fun c : Nat => [c])) = fun _ => 1 from rfl, List.map_const', List.sum_replicate_nat]; lia) ?_
    intro t6 s6 C6
    clear C
    rw [glue_nil, flat1]
    walk_at "mms"
    refine wpAny_For ?_ (by intro _; rfl)
    walk_at "mms"
    rename At _ _ _ _ _ _ => C
    refine lenL C (hl1.keeps C.keep) (by unfold sizeLine; lia) ?_
    clear C
    intro t7 s7 C7 _
    walk_at "mms"
    rename At _ _ _ _ _ _ => C
    have e1 : (1 : Int) + Int.fmod (vs.length : Nat) 3 = ((1 + vs.length % 3 : Nat) : Int) := by
      rw [Int.fmod_eq_emod_of_nonneg _ (by walk_at "om")]; lia
    rw [e1]
    refine rangeR1 C ?_
    intro r8 s8 C8 k8
    clear C
    walk_at "mms"
    refine itRng C8 (.head _) (by walk_at "om") (by walk_at "om") ?_
    intro it9 s9 C9 k9
    clear C8
    have kg5 : Keeps (dropA s.heap [70]) (dropA s.heap [70]) := fun _ _ e => e
    walk_at "hr"
    refine forR (iterRange w 0 _) R'.handled (fun i g m own => Keeps (dropA s.heap [70]) g ∧ own = [(70, tabP g lamPos lamQ)] ∧ ∃ p t, m "pattern" = some (.str (S p) t) ∧ p.length ≤ bnd i ∧ 45 ∉ p) (fun _ _ _ _ _ => trivial) ?_ ?_ ⟨kg5, rfl, fs, _, by walk_at "mm lk", hfl, e3⟩ (C9.drop (.cons₂ _ (.cons _ (.refl _))))
    · intro i g m own v s10 hi hv hI C
      obtain ⟨kg, rfl, p, t, hp, hpl, hno⟩ := hI
      obtain ⟨ti, rfl⟩ := hv
      have Gg : Gd w g := G.keeps kg
      clear C9
      walk_at "ht"
      refine wpAny_pure ?_
      refine wpAny_assign_Name ?_
      refine cutP (fun _ s' => ∃ m', At s.os g L m' [(it9, rngIt 0 (1 + vs.length % 3 - 0) (i + 1)), (70, tabP g lamPos lamQ)] s' ∧ m' "pattern" = some (.str (S p) t)) (by walk_at "mm"; exact ⟨_, by assumption, by walk_at "mm lk"⟩) ?_
      rintro _ s11 ⟨m11, C11, hp11⟩
      have hb : bnd i ≤ 27780 := by
        have : i = 0 ∨ i = 1 ∨ i = 2 := by lia
        rcases this with rfl | rfl | rfl <;> decide
      refine lawTurn Gg R (by walk_at "om") hA C11 hp11 (by walk_at "om") hno ?_ ?_
      · intro g' m' s' p' t' k C' hp' hpl' hno'
        walk_at "ho"
        exact ⟨g', m', _, ⟨fun b o e => k b o (kg b o e), rfl, p', t', hp', (by show _ ≤ 21 * bnd i + 60; lia), hno'⟩, C'⟩
      · intro g' m' s' k C'
        have kk : KeepsBut [70] s.heap s'.heap := fun b o hb e => C'.keep b o (k b o (kg b o (by rw [dropA_get, if_neg hb]; exact e)))
        walk_at "ho"
        refine h _ kk ?_ C'.os C'.gens
        obtain ⟨o, ho, ht⟩ := C'.get (.tail _ (.head _))
        exact ⟨o, ho, ht.keeps C'.keep⟩
    · intro g m own s10 hI C
      obtain ⟨kg, rfl, p, t, hp, hpl, hno⟩ := hI
      walk_at "mms"
      rename At _ _ _ _ _ _ => C
      have kk : KeepsBut [70] s.heap s10.heap := fun b o hb e => C.keep b o (kg b o (by rw [dropA_get, if_neg hb]; exact e))
      refine h _ kk ?_ C.os C.gens
      obtain ⟨o, ho, ht⟩ := C.get (.head _)
      exact ⟨o, ho, ht.keeps C.keep⟩
end
-- MEnd
section
abbrev rowQ : OpenRow := PySem.Challenge.rw_ko0066_01.row
theorem itemsInt {R : WRecords} : ∀ {xs : List WData}, WShape.hasItems R xs .int = true → ∀ d ∈ xs, ∃ i, d = .int i
  | [], _, _, h => nomatch h
  | x :: r, e, d, h => by
    simp only [WShape.hasItems, Bool.and_eq_true] at e
    rcases List.mem_cons.mp h with rfl | h
    · exact hasW_int e.1
    · exact itemsInt e.2 d h
theorem lawArgs {args : List WData} (h : (OpenRow.toRowW rowQ).claim.pre args = true) : ∃ ds, args = [.list ds] ∧ ds.length ≤ 63 ∧ ∀ d ∈ ds, ∃ i, d = .int i := by
  obtain ⟨h1, h2⟩ := pre_splitW h
  have h1 : WShape.hasAll [] args [.list .int] = true := h1
  obtain ⟨d, r, rfl, h3, h4⟩ := hasAllW_cons h1
  obtain rfl := hasAllW_nil h4
  obtain ⟨xs, rfl, h5⟩ := hasW_list h3
  refine ⟨xs, rfl, ?_, itemsInt h5⟩
  have h2 : WTm.holds [] (.and (.not (.lt (.lit (.int (63 : Nat))) (.len (.arg 0)))) (.lit (.bool true))) { args := [.list xs] } = true := h2
  have e : Num.less? (WData.int (63 : Nat)) (WData.int (xs.length : Nat)) = some (decide (((63 : Nat) : Int) < (xs.length : Nat))) := rfl
  by_cases hc : ((63 : Nat) : Int) < (xs.length : Nat)
  · simp only [WTm.holds, WTm.value, less?, List.getElem?_cons_zero] at h2
    rw [e, decide_eq_true hc] at h2
    cases h2
  · lia
theorem wellInts {P : Params} {h : Heap} : ∀ {vs : List Value} {ds : List WData}, WellAll P h vs ds → (∀ d ∈ ds, ∃ i, d = .int i) → vs.length = ds.length ∧ ∀ v ∈ vs, ∃ i t, v = Value.int i t
  | _, _, .nil, _ => ⟨rfl, fun _ h => nomatch h⟩
  | _, _, .cons (v := v) (d := d) r1 r2, e => by
    obtain ⟨l, q⟩ := wellInts r2 fun d h => e d (.tail _ h)
    obtain ⟨i, rfl⟩ := e d (.head _)
    refine ⟨by simp [l], fun x hx => ?_⟩
    rcases List.mem_cons.mp hx with rfl | hx
    · cases r1; exact ⟨_, _, rfl⟩
    · exact q x hx
theorem postTrue (ds : List WData) : rowQ.toRowW.claim.post [.list ds] (.bool true) [.list ds] = true := by
  show (WShape.has [] (.bool true) .bool && WTm.holds [] (.eq .res (.lit (.bool true))) ⟨[.list ds], some (.bool true), [.list ds], []⟩) = true
  have h2 : same (WData.bool true) (WData.bool true) = true := by decide +kernel
  simp [WShape.has, WShape.arms, WTm.holds, WTm.value, h2]
theorem rm0 : Rm 0 callerA := ⟨rfl, by decide, by decide, [], rfl⟩
theorem gd_of {w : World} {h : Heap} (K : (Kf PG w.params).In h) (lim : h.NoLimit) (b : ∃ mb, h.Ns builtinsNs mb ∧ ∀ x : Str, x ≠ "__name__" → mb x = bootBuiltins x) (h70 : h.get? 70 = some (tabObj #[])) : Gd w h ∧ Gd w (dropA h [70]) := by
  have key : ∀ b o, h.get? b = some o → b ≠ 70 → (dropA h [70]).get? b = some o := fun b o e n => by rw [dropA_get, if_neg (by simpa using n)]; exact e
  have ns : ∀ a m, h.Ns a m → (dropA h [70]).Ns a m := by
    rintro a m ⟨o, es, ep, e, e2, r⟩
    refine ⟨o, es, ep, key _ _ e (fun q => ?_), e2, r⟩
    rw [q, h70] at e; cases e; cases e2
  refine ⟨⟨K, lim, b⟩, ⟨fun a o e => key _ _ (K a o e) (fun q => ?_), ?_, ?_⟩⟩
  · subst q
    have : (Kf PG w.params).lookup 70 = none := by kernel_rfl
    rw [this] at e; cases e
  · obtain ⟨mc, h1, h2⟩ := lim; exact ⟨mc, ns _ _ h1, h2⟩
  · obtain ⟨mb, h1, h2⟩ := b; exact ⟨mb, ns _ _ h1, h2⟩
theorem oldK_of {w : World} {h h' : Heap} (K : (Kf PG w.params).In h) (h70 : h.get? 70 = some (tabObj #[])) (k : KeepsBut [70] h h') (ht : ∃ o, h'.get? 70 = some o ∧ tabP h' lamPos lamQ o) : OldK h h' := by
  obtain ⟨o', e', t'⟩ := ht
  have code : isCodeTable h 70 := by
    refine ⟨74, _, _, K _ _ (show (Kf PG w.params).lookup 74 = some (k74 PG w.params) from by kernel_rfl), rfl, rfl, ?_⟩
    rfl
  have gr : ∃ ps, o' = tabObj ps := by
    rcases t' with e | ⟨c', e, _⟩
    · exact ⟨_, e⟩
    · exact ⟨_, e⟩
  obtain ⟨ps, rfl⟩ := gr
  refine ⟨fun b o e => ?_, fun b o e => ?_⟩
  · by_cases hb : b = 70
    · subst hb
      rw [h70] at e; cases e
      exact .inr (.inl ⟨code, rfl, #[], ps, rfl, by rw [Array.empty_append]; exact e'⟩)
    · exact .inl (k b o (by simpa using hb) e)
  · by_cases hb : b = 70
    · subst hb; exact ⟨_, e'⟩
    · exact ⟨_, k b o (by simpa using hb) e⟩

theorem lawWalk {w : World} {s₀ s₁ : Shared} {mg mb : Str → Option Value} (G : Ground qv looseL rowQ.toRowW.records (fun _ _ => True) w s₀ mg mb s₁.heap) (Y : hdHook.says w s₁.heap) {a : Addr} (hm : mg "law" = some (.ref a)) (hg : s₁.gens = #[])
    {args : List WData} {vals : List Value} (hpre : (OpenRow.toRowW rowQ).claim.pre args = true) (W : WellAll w.params s₁.heap vals args) :
    wpAny (Md w) callerA (call (.ref a) vals) (fun v s' => GoodWG rowQ.toRowW.claim (classAt s₀.heap) (ExcName.means s₀.heap) args s₁ (.ok (.ret v)) s')
      (fun e s' => GoodWG rowQ.toRowW.claim (classAt s₀.heap) (ExcName.means s₀.heap) args s₁ (.error e) s') s₁ := by
  obtain ⟨ds, rfl, hlen, hd⟩ := lawArgs hpre
  have K : (Kf PG w.params).In s₁.heap := km_in_of Y
  have h70 : s₁.heap.get? 70 = some (tabObj #[]) := km_tabs_of Y 70 (.head _)
  have e822 : mg "law" = some (.ref 822) := mg_of K G.T.g (by kernel_rfl)
  rw [hm] at e822
  cases e822
  cases W with
  | cons W1 W2 =>
  cases W2 with
  | nil =>
  cases W1 with
  | list hl W3 =>
  obtain ⟨l3, q3⟩ := wellInts W3 hd
  obtain ⟨G0, G1⟩ := gd_of K G.T.nolimit ⟨mb, G.T.b, G.T.builtins⟩ h70
  refine spLaw G1 G0 rm0 hg rfl ⟨_, h70, .inl rfl⟩ ⟨_, hl, 0, rfl⟩ q3 (by lia) ?_
  intro s' k ht ho hg'
  refine ⟨.inl ⟨.bool true, .bool true, [], rfl, fun _ => rfl, .bool true, postTrue ds, fun _ => ⟨.nil, fun _ h => nomatch h⟩⟩, oldK_of K h70 k ht, ho, .of_eq hg'⟩
end
end Mine
set_option maxRecDepth 100000 in
set_option maxHeartbeats 8000000 in
theorem PySem.Challenge.cw_ko0066_01_holds : PySem.Challenge.rw_ko0066_01.Holds := by
  refine holds_law Mine.lawSaid fun said => ?_
  refine PySem.W.holds_open (r := Mine.rowQ) (q := Mine.qv) (loose := Mine.looseL) (Xt := fun _ => true) (XP := fun _ _ => True) (Yf := Mine.hdHook.obs) (Ya := Mine.hdHook.val) (YP := Mine.hdHook.says) (kwd := []) (N := 20000)
    Mine.hdLeft Mine.hdHook.of Mine.hdHook.keeps (fun _ _ => trivial) (fun _ _ _ _ _ => trivial) (by rfl) (by rfl) (by rfl) (fun _ _ => recFacts_nil rfl) (by rfl) (by assumption) (by decide +kernel) ⟨rfl, rfl, rfl, rfl, rfl, Mine.tablesQ⟩ ?hw ?hc
  case hw => w_witness2
  case hc =>
    intro w s₀ s₁ mg mb G Y a o pm cd doc dV kV ho hd hcd hD hm hg args vals as hpre hlay hrd hwl hlo
    exact Mine.lawWalk G Y hm hg hpre hwl
