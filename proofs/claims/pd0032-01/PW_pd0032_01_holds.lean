import PyProof.Rows.All
import Wide.All
import OpenK.AllK
import Wide.FinOn
import Lean
import PySem.Challenge.RW_pd0032_01
set_option Elab.async false
section
open PySem PySem.W PyProof.Rows
set_option Elab.async false
set_option maxRecDepth 100000
set_option linter.all false
namespace Mine
noncomputable abbrev PR : Program := PySem.Challenge.rw_pd0032_01.row.prog
noncomputable def nthS : List Stmt → Nat → Stmt
  | [], _ => .Pass ⟨0, 0, 0, 0⟩
  | s :: _, 0 => s
  | _ :: r, n + 1 => nthS r n
noncomputable def kidsS : Stmt → List Stmt
  | .ClassDef _ _ _ b _ _ _ _ _ _ _ => b
  | _ => []
noncomputable def bodyS : Stmt → List Stmt
  | .FunctionDef _ _ b _ _ _ _ _ _ _ => b
  | _ => []
noncomputable def argsS : Stmt → Arguments
  | .FunctionDef _ a _ _ _ _ _ _ _ _ => a
  | _ => ⟨[], [], none, [], [], none, []⟩
noncomputable def scopeS : Stmt → Scope
  | .FunctionDef _ _ _ _ _ _ s _ _ _ => s
  | _ => ⟨.function, [], false, false, []⟩
noncomputable def stAt (n : Nat) : Stmt := nthS PySem.Challenge.pw_pd0032_01.main.body n
noncomputable def stIn (n k : Nat) : Stmt := nthS (kidsS (stAt n)) k
noncomputable abbrev ob2 (P : Params) : Obj := ⟨.none, none, (.dict ([⟨PyData.keyHash P (Str.ofString "\x69mport.loaded._sre"), (.str (Str.ofString "\x69mport.loaded._sre") 183), (.bool true)⟩, ⟨PyData.keyHash P (Str.ofString "class._frozen_importlib.BuiltinImporter"), (.str (Str.ofString "class._frozen_importlib.BuiltinImporter") 185), (.ref 14)⟩, ⟨PyData.keyHash P (Str.ofString "watched.\x69mport"), (.str (Str.ofString "watched.\x69mport") 206), (.ref 18)⟩, ⟨PyData.keyHash P (Str.ofString "class._frozen_importlib.ModuleSpec"), (.str (Str.ofString "class._frozen_importlib.ModuleSpec") 216), (.ref 22)⟩, ⟨PyData.keyHash P (Str.ofString "sys.modules.booked-epoch"), (.str (Str.ofString "sys.modules.booked-epoch") 245), (.int (4) 0)⟩, ⟨PyData.keyHash P (Str.ofString "\x69mport.later-laid._sre"), (.str (Str.ofString "\x69mport.later-laid._sre") 270), (.bool true)⟩, ⟨PyData.keyHash P (Str.ofString "watched.library"), (.str (Str.ofString "watched.library") 272), (.ref 27)⟩, ⟨PyData.keyHash P (Str.ofString "watched.library-objects"), (.str (Str.ofString "watched.library-objects") 0), (.str (Str.ofString "\x0c\x1e") 0)⟩, ⟨PyData.keyHash P (Str.ofString "watched.library-deep._sre"), (.str (Str.ofString "watched.library-deep._sre") 273), (.str (Str.ofString "\x04\x00\x00\x0b\x04\x00\x00\x0b\x04\x00\x00\x03\x04\x00\x00\x0b\x08\x04dict\x02") 0)⟩, ⟨PyData.keyHash P (Str.ofString "\x69mport.loaded._collections"), (.str (Str.ofString "\x69mport.loaded._collections") 280), (.bool true)⟩, ⟨PyData.keyHash P (Str.ofString "sys.modules.landed._collections"), (.str (Str.ofString "sys.modules.landed._collections") 294), (.bool true)⟩, ⟨PyData.keyHash P (Str.ofString "\x69mport.later-laid._collections"), (.str (Str.ofString "\x69mport.later-laid._collections") 309), (.bool true)⟩, ⟨PyData.keyHash P (Str.ofString "watched.library-deep._collections"), (.str (Str.ofString "watched.library-deep._collections") 311), (.str (Str.ofString "\x04\x00\x00\x1d\x04\x00\x00\x1d\x04\x00\x00\x03\x04\x00\x00\x1d\x08\x04dict\x02") 0)⟩, ⟨PyData.keyHash P (Str.ofString "type.__subclasses__.OSError.0"), (.str (Str.ofString "type.__subclasses__.OSError.0") 565), (.int (181) 0)⟩, ⟨PyData.keyHash P (Str.ofString "type.__subclasses__.OSError.n"), (.str (Str.ofString "type.__subclasses__.OSError.n") 566), (.int (1) 0)⟩].toArray) 15), #[]⟩
noncomputable abbrev ob3 (P : Params) : Obj := ⟨(.type "dict"), none, (.dict ([⟨PyData.keyHash P (Str.ofString "__name__"), (.str (Str.ofString "__name__") 165), (.str (Str.ofString "law_pd0032_01") 1406)⟩, ⟨PyData.keyHash P (Str.ofString "__doc__"), (.str (Str.ofString "__doc__") 166), .none⟩, ⟨PyData.keyHash P (Str.ofString "__package__"), (.str (Str.ofString "__package__") 167), .none⟩, ⟨PyData.keyHash P (Str.ofString "__loader__"), (.str (Str.ofString "__loader__") 168), (.builtin "__main__.__loader__#opaque")⟩, ⟨PyData.keyHash P (Str.ofString "__spec__"), (.str (Str.ofString "__spec__") 169), .none⟩, ⟨PyData.keyHash P (Str.ofString "__annotations__"), (.str (Str.ofString "__annotations__") 170), (.ref 6)⟩, ⟨PyData.keyHash P (Str.ofString "__builtins__"), (.str (Str.ofString "__builtins__") 171), (.ref 4)⟩, ⟨PyData.keyHash P (Str.ofString "__file__"), (.str (Str.ofString "__file__") 173), (.str (Str.ofString "/claim/cut.py") 172)⟩, ⟨PyData.keyHash P (Str.ofString "__cached__"), (.str (Str.ofString "__cached__") 174), .none⟩, ⟨PyData.keyHash P (Str.ofString "_sre"), (.str (Str.ofString "_sre") 275), (.ref 12)⟩, ⟨PyData.keyHash P (Str.ofString "deque"), (.str (Str.ofString "deque") 317), (.type "collections.deque")⟩, ⟨PyData.keyHash P (Str.ofString "_wall"), (.str (Str.ofString "_wall") 330), (.ref 44)⟩, ⟨PyData.keyHash P (Str.ofString "_plain_name"), (.str (Str.ofString "_plain_name") 341), (.ref 51)⟩, ⟨PyData.keyHash P (Str.ofString "ABCMeta"), (.str (Str.ofString "ABCMeta") 367), (.ref 68)⟩, ⟨PyData.keyHash P (Str.ofString "_ABCLike"), (.str (Str.ofString "_ABCLike") 410), (.ref 101)⟩, ⟨PyData.keyHash P (Str.ofString "_abc_plain_meta"), (.str (Str.ofString "_abc_plain_meta") 417), (.ref 110)⟩, ⟨PyData.keyHash P (Str.ofString "fspath"), (.str (Str.ofString "fspath") 429), (.ref 117)⟩, ⟨PyData.keyHash P (Str.ofString "_check_arg_types"), (.str (Str.ofString "_check_arg_types") 442), (.ref 728)⟩, ⟨PyData.keyHash P (Str.ofString "check_arg_types_genericpath"), (.str (Str.ofString "check_arg_types_genericpath") 443), (.ref 124)⟩, ⟨PyData.keyHash P (Str.ofString "_get_sep"), (.str (Str.ofString "_get_sep") 452), (.ref 131)⟩, ⟨PyData.keyHash P (Str.ofString "join"), (.str (Str.ofString "join") 463), (.ref 742)⟩, ⟨PyData.keyHash P (Str.ofString "join_posixpath"), (.str (Str.ofString "join_posixpath") 464), (.ref 138)⟩, ⟨PyData.keyHash P (Str.ofString "splitroot"), (.str (Str.ofString "splitroot") 473), (.ref 145)⟩, ⟨PyData.keyHash P (Str.ofString "normpath"), (.str (Str.ofString "normpath") 488), (.ref 152)⟩, ⟨PyData.keyHash P (Str.ofString "_twin_re_1"), (.str (Str.ofString "_twin_re_1") 528), (.ref 157)⟩, ⟨PyData.keyHash P (Str.ofString "_whence"), (.str (Str.ofString "_whence") 538), (.ref 164)⟩, ⟨PyData.keyHash P (Str.ofString "_index"), (.str (Str.ofString "_index") 546), (.ref 171)⟩, ⟨PyData.keyHash P (Str.ofString "UnsupportedOperation"), (.str (Str.ofString "UnsupportedOperation") 568), (.ref 181)⟩, ⟨PyData.keyHash P (Str.ofString "IOBase"), (.str (Str.ofString "IOBase") 600), (.ref 201)⟩, ⟨PyData.keyHash P (Str.ofString "BufferedIOBase"), (.str (Str.ofString "BufferedIOBase") 618), (.ref 216)⟩, ⟨PyData.keyHash P (Str.ofString "TextIOBase"), (.str (Str.ofString "TextIOBase") 636), (.ref 228)⟩, ⟨PyData.keyHash P (Str.ofString "BytesIO"), (.str (Str.ofString "BytesIO") 898), (.ref 458)⟩, ⟨PyData.keyHash P (Str.ofString "StringIO"), (.str (Str.ofString "StringIO") 1185), (.ref 705)⟩, ⟨PyData.keyHash P (Str.ofString "_kind"), (.str (Str.ofString "_kind") 1196), (.ref 714)⟩, ⟨PyData.keyHash P (Str.ofString "_fspath"), (.str (Str.ofString "_fspath") 1205), (.ref 721)⟩, ⟨PyData.keyHash P (Str.ofString "check_arg_types_path"), (.str (Str.ofString "check_arg_types_path") 1216), (.ref 728)⟩, ⟨PyData.keyHash P (Str.ofString "isabs"), (.str (Str.ofString "isabs") 1223), (.ref 735)⟩, ⟨PyData.keyHash P (Str.ofString "join_path"), (.str (Str.ofString "join_path") 1235), (.ref 742)⟩, ⟨PyData.keyHash P (Str.ofString "dirname"), (.str (Str.ofString "dirname") 1245), (.ref 749)⟩, ⟨PyData.keyHash P (Str.ofString "shlex"), (.str (Str.ofString "shlex") 1386), (.ref 840)⟩, ⟨PyData.keyHash P (Str.ofString "split"), (.str (Str.ofString "split") 1396), (.ref 852)⟩, ⟨PyData.keyHash P (Str.ofString "_find_unsafe"), (.str (Str.ofString "_find_unsafe") 1398), (.ref 853)⟩, ⟨PyData.keyHash P (Str.ofString "quote"), (.str (Str.ofString "quote") 1405), (.ref 860)⟩, ⟨PyData.keyHash P (Str.ofString "_law_tour"), (.str (Str.ofString "_law_tour") 1429), (.ref 867)⟩, ⟨PyData.keyHash P (Str.ofString "_law_spell"), (.str (Str.ofString "_law_spell") 1440), (.ref 874)⟩, ⟨PyData.keyHash P (Str.ofString "_law_line"), (.str (Str.ofString "_law_line") 1452), (.ref 881)⟩, ⟨PyData.keyHash P (Str.ofString "_law_text"), (.str (Str.ofString "_law_text") 1458), (.ref 886)⟩, ⟨PyData.keyHash P (Str.ofString "law"), (.str (Str.ofString "law") 1464), (.ref 891)⟩].toArray) 48), #[]⟩
noncomputable abbrev ob116 (P : Params) : Obj := ⟨(.type "code"), none, (.fields ([(.str (Str.ofString "fspath") 420), (.str (Str.ofString "fspath") 421), (.str (Str.ofString "/claim/cut.py") 422), (.int (37) 0), (.int (1) 0), (.int (0) 0), (.int (0) 0), (.int (3) 0), (.ref 111), (.bool true), (.int (318) 0), (.ref 112), .none, (.ref 113), (.ref 114), (.ref 115), (.int (427) 0), (.int (37) 0), (.str (Str.ofString "/claim/cut.py") 428)].toArray)), #[]⟩
noncomputable abbrev bd117 : List Stmt := Subtype.val (p := fun b => bodyS (stAt 11) = b) (by refine' ⟨_, _⟩; rotate_left; (conv => lhs; whnf))
noncomputable abbrev ag117 : Arguments := Subtype.val (p := fun b => argsS (stAt 11) = b) (by refine' ⟨_, _⟩; rotate_left; (conv => lhs; whnf))
noncomputable abbrev sc117 : Scope := Subtype.val (p := fun b => scopeS (stAt 11) = b) (by refine' ⟨_, _⟩; rotate_left; (conv => lhs; whnf))
noncomputable abbrev ob117 (P : Params) : Obj := ⟨(.type "function"), none, (.func { name := (Str.ofString "fspath"), qualname := (Str.ofString "fspath"), params := ag117, body := .stmts bd117, scope := sc117, globals := 3, closure := [], defaults := .none, kwdefaults := .none, doc := .none, pyModule := (.str (Str.ofString "os") 418), annotations := none, code := (.ref 116), closureTuple := .none, builtins := 0 }), #[]⟩
noncomputable abbrev ob130 (P : Params) : Obj := ⟨(.type "code"), none, (.fields ([(.str (Str.ofString "_get_sep") 446), (.str (Str.ofString "_get_sep") 447), (.str (Str.ofString "/claim/cut.py") 448), (.int (67) 0), (.int (1) 0), (.int (0) 0), (.int (0) 0), (.int (3) 0), (.ref 125), (.bool true), (.int (318) 0), (.ref 126), .none, (.ref 127), (.ref 128), (.ref 129), (.int (450) 0), (.int (67) 0), (.str (Str.ofString "/claim/cut.py") 451)].toArray)), #[]⟩
noncomputable abbrev bd131 : List Stmt := Subtype.val (p := fun b => bodyS (stAt 16) = b) (by refine' ⟨_, _⟩; rotate_left; (conv => lhs; whnf))
noncomputable abbrev ag131 : Arguments := Subtype.val (p := fun b => argsS (stAt 16) = b) (by refine' ⟨_, _⟩; rotate_left; (conv => lhs; whnf))
noncomputable abbrev sc131 : Scope := Subtype.val (p := fun b => scopeS (stAt 16) = b) (by refine' ⟨_, _⟩; rotate_left; (conv => lhs; whnf))
noncomputable abbrev ob131 (P : Params) : Obj := ⟨(.type "function"), none, (.func { name := (Str.ofString "_get_sep"), qualname := (Str.ofString "_get_sep"), params := ag131, body := .stmts bd131, scope := sc131, globals := 3, closure := [], defaults := .none, kwdefaults := .none, doc := .none, pyModule := (.str (Str.ofString "cpy313.posixpath") 444), annotations := none, code := (.ref 130), closureTuple := .none, builtins := 0 }), #[]⟩
noncomputable abbrev ob137 (P : Params) : Obj := ⟨(.type "code"), none, (.fields ([(.str (Str.ofString "join") 453), (.str (Str.ofString "join") 454), (.str (Str.ofString "/claim/cut.py") 455), (.int (72) 0), (.int (1) 0), (.int (0) 0), (.int (0) 0), (.int (7) 0), (.ref 132), (.bool true), (.int (318) 0), (.ref 133), .none, (.ref 134), (.ref 135), (.ref 136), (.int (461) 0), (.int (72) 0), (.str (Str.ofString "/claim/cut.py") 462)].toArray)), #[]⟩
noncomputable abbrev bd138 : List Stmt := Subtype.val (p := fun b => bodyS (stAt 17) = b) (by refine' ⟨_, _⟩; rotate_left; (conv => lhs; whnf))
noncomputable abbrev ag138 : Arguments := Subtype.val (p := fun b => argsS (stAt 17) = b) (by refine' ⟨_, _⟩; rotate_left; (conv => lhs; whnf))
noncomputable abbrev sc138 : Scope := Subtype.val (p := fun b => scopeS (stAt 17) = b) (by refine' ⟨_, _⟩; rotate_left; (conv => lhs; whnf))
noncomputable abbrev ob138 (P : Params) : Obj := ⟨(.type "function"), none, (.func { name := (Str.ofString "join"), qualname := (Str.ofString "join"), params := ag138, body := .stmts bd138, scope := sc138, globals := 3, closure := [], defaults := .none, kwdefaults := .none, doc := .none, pyModule := (.str (Str.ofString "cpy313.posixpath") 444), annotations := none, code := (.ref 137), closureTuple := .none, builtins := 0 }), #[]⟩
noncomputable abbrev ob144 (P : Params) : Obj := ⟨(.type "code"), none, (.fields ([(.str (Str.ofString "splitroot") 465), (.str (Str.ofString "splitroot") 466), (.str (Str.ofString "/claim/cut.py") 467), (.int (90) 0), (.int (1) 0), (.int (0) 0), (.int (0) 0), (.int (3) 0), (.ref 139), (.bool true), (.int (318) 0), (.ref 140), .none, (.ref 141), (.ref 142), (.ref 143), (.int (471) 0), (.int (90) 0), (.str (Str.ofString "/claim/cut.py") 472)].toArray)), #[]⟩
noncomputable abbrev bd145 : List Stmt := Subtype.val (p := fun b => bodyS (stAt 19) = b) (by refine' ⟨_, _⟩; rotate_left; (conv => lhs; whnf))
noncomputable abbrev ag145 : Arguments := Subtype.val (p := fun b => argsS (stAt 19) = b) (by refine' ⟨_, _⟩; rotate_left; (conv => lhs; whnf))
noncomputable abbrev sc145 : Scope := Subtype.val (p := fun b => scopeS (stAt 19) = b) (by refine' ⟨_, _⟩; rotate_left; (conv => lhs; whnf))
noncomputable abbrev ob145 (P : Params) : Obj := ⟨(.type "function"), none, (.func { name := (Str.ofString "splitroot"), qualname := (Str.ofString "splitroot"), params := ag145, body := .stmts bd145, scope := sc145, globals := 3, closure := [], defaults := .none, kwdefaults := .none, doc := .none, pyModule := (.str (Str.ofString "cpy313.posixpath") 444), annotations := none, code := (.ref 144), closureTuple := .none, builtins := 0 }), #[]⟩
noncomputable abbrev ob151 (P : Params) : Obj := ⟨(.type "code"), none, (.fields ([(.str (Str.ofString "normpath") 474), (.str (Str.ofString "normpath") 475), (.str (Str.ofString "/claim/cut.py") 476), (.int (104) 0), (.int (1) 0), (.int (0) 0), (.int (0) 0), (.int (3) 0), (.ref 146), (.bool true), (.int (318) 0), (.ref 147), .none, (.ref 148), (.ref 149), (.ref 150), (.int (486) 0), (.int (104) 0), (.str (Str.ofString "/claim/cut.py") 487)].toArray)), #[]⟩
noncomputable abbrev bd152 : List Stmt := Subtype.val (p := fun b => bodyS (stAt 20) = b) (by refine' ⟨_, _⟩; rotate_left; (conv => lhs; whnf))
noncomputable abbrev ag152 : Arguments := Subtype.val (p := fun b => argsS (stAt 20) = b) (by refine' ⟨_, _⟩; rotate_left; (conv => lhs; whnf))
noncomputable abbrev sc152 : Scope := Subtype.val (p := fun b => scopeS (stAt 20) = b) (by refine' ⟨_, _⟩; rotate_left; (conv => lhs; whnf))
noncomputable abbrev ob152 (P : Params) : Obj := ⟨(.type "function"), none, (.func { name := (Str.ofString "normpath"), qualname := (Str.ofString "normpath"), params := ag152, body := .stmts bd152, scope := sc152, globals := 3, closure := [], defaults := .none, kwdefaults := .none, doc := .none, pyModule := (.str (Str.ofString "cpy313.posixpath") 444), annotations := none, code := (.ref 151), closureTuple := .none, builtins := 0 }), #[]⟩
noncomputable abbrev ob156 (P : Params) : Obj := ⟨(.type "tuple"), none, (.seq ([(.int (14) 0), (.int (17) 0), (.int (4) 0), (.int (1) 0), (.int (1) 0), (.int (21) 0), (.int (9) 0), (.int (0) 0), (.int (604043296) 0), (.int (1) 0), (.int (0) 0), (.int (0) 0), (.int (0) 0), (.int (0) 0), (.int (0) 0), (.int (8) 0), (.int (4) 0), (.int (0) 0), (.int (13) 0), (.int (14) 0), (.int (21) 0), (.int (9) 0), (.int (0) 0), (.int (604043296) 0), (.int (1) 0), (.int (0) 0), (.int (0) 0), (.int (0) 0), (.int (0) 0), (.int (0) 0), (.int (8) 0), (.int (4) 0), (.int (0) 0), (.int (1) 0)].toArray) 0), #[]⟩
noncomputable abbrev ob157 (P : Params) : Obj := ⟨(.type "re.Pattern"), none, (.fields ([(.str (Str.ofString "[^\\w@%+=:,./-]") 490), (.int (256) 527), (.int (0) 0), .none, .none, (.ref 156), (.int (0) 0)].toArray)), #[]⟩
noncomputable abbrev ob170 (P : Params) : Obj := ⟨(.type "code"), none, (.fields ([(.str (Str.ofString "_index") 539), (.str (Str.ofString "_index") 540), (.str (Str.ofString "/claim/cut.py") 541), (.int (136) 0), (.int (2) 0), (.int (0) 0), (.int (0) 0), (.int (3) 0), (.ref 165), (.bool true), (.int (318) 0), (.ref 166), .none, (.ref 167), (.ref 168), (.ref 169), (.int (544) 0), (.int (136) 0), (.str (Str.ofString "/claim/cut.py") 545)].toArray)), #[]⟩
noncomputable abbrev bd171 : List Stmt := Subtype.val (p := fun b => bodyS (stAt 24) = b) (by refine' ⟨_, _⟩; rotate_left; (conv => lhs; whnf))
noncomputable abbrev ag171 : Arguments := Subtype.val (p := fun b => argsS (stAt 24) = b) (by refine' ⟨_, _⟩; rotate_left; (conv => lhs; whnf))
noncomputable abbrev sc171 : Scope := Subtype.val (p := fun b => scopeS (stAt 24) = b) (by refine' ⟨_, _⟩; rotate_left; (conv => lhs; whnf))
noncomputable abbrev ob171 (P : Params) : Obj := ⟨(.type "function"), none, (.func { name := (Str.ofString "_index"), qualname := (Str.ofString "_index"), params := ag171, body := .stmts bd171, scope := sc171, globals := 3, closure := [], defaults := .none, kwdefaults := .none, doc := .none, pyModule := (.str (Str.ofString "io") 529), annotations := none, code := (.ref 170), closureTuple := .none, builtins := 0 }), #[]⟩
noncomputable abbrev ob197 (P : Params) : Obj := ⟨(.type "code"), none, (.fields ([(.str (Str.ofString "__new__") 583), (.str (Str.ofString "IOBase.__new__") 584), (.str (Str.ofString "/claim/cut.py") 585), (.int (148) 0), (.int (1) 0), (.int (1) 0), (.int (0) 0), (.int (15) 0), (.ref 192), (.bool true), (.int (318) 0), (.ref 193), .none, (.ref 194), (.ref 195), (.ref 196), (.int (589) 0), (.int (148) 0), (.str (Str.ofString "/claim/cut.py") 590)].toArray)), #[]⟩
noncomputable abbrev bd198 : List Stmt := Subtype.val (p := fun b => bodyS (stIn 26 1) = b) (by refine' ⟨_, _⟩; rotate_left; (conv => lhs; whnf))
noncomputable abbrev ag198 : Arguments := Subtype.val (p := fun b => argsS (stIn 26 1) = b) (by refine' ⟨_, _⟩; rotate_left; (conv => lhs; whnf))
noncomputable abbrev sc198 : Scope := Subtype.val (p := fun b => scopeS (stIn 26 1) = b) (by refine' ⟨_, _⟩; rotate_left; (conv => lhs; whnf))
noncomputable abbrev ob198 (P : Params) : Obj := ⟨(.type "function"), none, (.func { name := (Str.ofString "__new__"), qualname := (Str.ofString "IOBase.__new__"), params := ag198, body := .stmts bd198, scope := sc198, globals := 3, closure := [], defaults := .none, kwdefaults := .none, doc := .none, pyModule := (.str (Str.ofString "io") 529), annotations := none, code := (.ref 197), closureTuple := .none, builtins := 0 }), #[]⟩
noncomputable abbrev ob200 (P : Params) : Obj := ⟨(.type "dict"), none, (.dict ([⟨PyData.keyHash P (Str.ofString "__module__"), (.str (Str.ofString "__module__") 576), (.str (Str.ofString "io") 581)⟩, ⟨PyData.keyHash P (Str.ofString "__firstlineno__"), (.str (Str.ofString "__firstlineno__") 580), (.int (145) 579)⟩, ⟨PyData.keyHash P (Str.ofString "__new__"), (.str (Str.ofString "__new__") 591), (.ref 202)⟩, ⟨PyData.keyHash P (Str.ofString "__static_attributes__"), (.str (Str.ofString "__static_attributes__") 592), (.ref 199)⟩, ⟨PyData.keyHash P (Str.ofString "__dict__"), (.str (Str.ofString "__dict__") 595), (.ref 203)⟩, ⟨PyData.keyHash P (Str.ofString "__weakref__"), (.str (Str.ofString "__weakref__") 597), (.ref 204)⟩, ⟨PyData.keyHash P (Str.ofString "__doc__"), (.str (Str.ofString "__doc__") 598), .none⟩].toArray) 4), #[]⟩
noncomputable abbrev ob201 (P : Params) : Obj := ⟨(.type "type"), none, (.cls { name := (Str.ofString "IOBase"), bases := [(.type "object")], mro := [(.ref 201), (.type "object")], ns := 200, qualname := (Str.ofString "IOBase"), hasDict := true, slotNames := [], subclasses := [(.ref 216), (.ref 228)], abstract := false, collection := none, hasDel := false }), ([none, none, (some (.str (Str.ofString "IOBase") 569)), (some (.str (Str.ofString "IOBase") 577)), (some .none), (some (.bool true))].toArray)⟩
noncomputable abbrev ob202 (P : Params) : Obj := ⟨(.type "staticmethod"), none, (.fields ([(.ref 198)].toArray)), #[]⟩
noncomputable abbrev ob215 (P : Params) : Obj := ⟨(.type "dict"), none, (.dict ([⟨PyData.keyHash P (Str.ofString "__module__"), (.str (Str.ofString "__module__") 608), (.str (Str.ofString "io") 613)⟩, ⟨PyData.keyHash P (Str.ofString "__firstlineno__"), (.str (Str.ofString "__firstlineno__") 612), (.int (152) 611)⟩, ⟨PyData.keyHash P (Str.ofString "__static_attributes__"), (.str (Str.ofString "__static_attributes__") 615), (.ref 214)⟩, ⟨PyData.keyHash P (Str.ofString "__doc__"), (.str (Str.ofString "__doc__") 616), .none⟩].toArray) 2), #[]⟩
noncomputable abbrev ob216 (P : Params) : Obj := ⟨(.type "type"), none, (.cls { name := (Str.ofString "BufferedIOBase"), bases := [(.ref 201)], mro := [(.ref 216), (.ref 201), (.type "object")], ns := 215, qualname := (Str.ofString "BufferedIOBase"), hasDict := true, slotNames := [], subclasses := [(.ref 458)], abstract := false, collection := none, hasDel := false }), ([(some (.ref 207)), none, (some (.str (Str.ofString "BufferedIOBase") 601)), (some (.str (Str.ofString "BufferedIOBase") 609)), (some .none), (some (.bool true))].toArray)⟩
noncomputable abbrev ob227 (P : Params) : Obj := ⟨(.type "dict"), none, (.dict ([⟨PyData.keyHash P (Str.ofString "__module__"), (.str (Str.ofString "__module__") 626), (.str (Str.ofString "io") 631)⟩, ⟨PyData.keyHash P (Str.ofString "__firstlineno__"), (.str (Str.ofString "__firstlineno__") 630), (.int (154) 629)⟩, ⟨PyData.keyHash P (Str.ofString "__static_attributes__"), (.str (Str.ofString "__static_attributes__") 633), (.ref 226)⟩, ⟨PyData.keyHash P (Str.ofString "__doc__"), (.str (Str.ofString "__doc__") 634), .none⟩].toArray) 2), #[]⟩
noncomputable abbrev ob228 (P : Params) : Obj := ⟨(.type "type"), none, (.cls { name := (Str.ofString "TextIOBase"), bases := [(.ref 201)], mro := [(.ref 228), (.ref 201), (.type "object")], ns := 227, qualname := (Str.ofString "TextIOBase"), hasDict := true, slotNames := [], subclasses := [(.ref 705)], abstract := false, collection := none, hasDel := false }), ([(some (.ref 219)), none, (some (.str (Str.ofString "TextIOBase") 619)), (some (.str (Str.ofString "TextIOBase") 627)), (some .none), (some (.bool true))].toArray)⟩
noncomputable abbrev ob457 (P : Params) : Obj := ⟨(.type "dict"), none, (.dict ([⟨PyData.keyHash P (Str.ofString "__module__"), (.str (Str.ofString "__module__") 644), (.str (Str.ofString "_io") 649)⟩, ⟨PyData.keyHash P (Str.ofString "__firstlineno__"), (.str (Str.ofString "__firstlineno__") 648), (.int (156) 647)⟩, ⟨PyData.keyHash P (Str.ofString "__init__"), (.str (Str.ofString "__init__") 658), (.ref 245)⟩, ⟨PyData.keyHash P (Str.ofString "_BytesIO__check"), (.str (Str.ofString "_BytesIO__check") 665), (.ref 252)⟩, ⟨PyData.keyHash P (Str.ofString "_BytesIO__line"), (.str (Str.ofString "_BytesIO__line") 676), (.ref 259)⟩, ⟨PyData.keyHash P (Str.ofString "closed"), (.str (Str.ofString "closed") 684), (.ref 267)⟩, ⟨PyData.keyHash P (Str.ofString "close"), (.str (Str.ofString "close") 691), (.ref 274)⟩, ⟨PyData.keyHash P (Str.ofString "__enter__"), (.str (Str.ofString "__enter__") 698), (.ref 281)⟩, ⟨PyData.keyHash P (Str.ofString "__exit__"), (.str (Str.ofString "__exit__") 706), (.ref 288)⟩, ⟨PyData.keyHash P (Str.ofString "readable"), (.str (Str.ofString "readable") 713), (.ref 295)⟩, ⟨PyData.keyHash P (Str.ofString "writable"), (.str (Str.ofString "writable") 720), (.ref 302)⟩, ⟨PyData.keyHash P (Str.ofString "seekable"), (.str (Str.ofString "seekable") 727), (.ref 309)⟩, ⟨PyData.keyHash P (Str.ofString "isatty"), (.str (Str.ofString "isatty") 734), (.ref 316)⟩, ⟨PyData.keyHash P (Str.ofString "flush"), (.str (Str.ofString "flush") 741), (.ref 323)⟩, ⟨PyData.keyHash P (Str.ofString "fileno"), (.str (Str.ofString "fileno") 748), (.ref 330)⟩, ⟨PyData.keyHash P (Str.ofString "detach"), (.str (Str.ofString "detach") 755), (.ref 337)⟩, ⟨PyData.keyHash P (Str.ofString "getvalue"), (.str (Str.ofString "getvalue") 762), (.ref 344)⟩, ⟨PyData.keyHash P (Str.ofString "getbuffer"), (.str (Str.ofString "getbuffer") 769), (.ref 351)⟩, ⟨PyData.keyHash P (Str.ofString "tell"), (.str (Str.ofString "tell") 776), (.ref 358)⟩, ⟨PyData.keyHash P (Str.ofString "seek"), (.str (Str.ofString "seek") 786), (.ref 366)⟩, ⟨PyData.keyHash P (Str.ofString "truncate"), (.str (Str.ofString "truncate") 794), (.ref 374)⟩, ⟨PyData.keyHash P (Str.ofString "read"), (.str (Str.ofString "read") 806), (.ref 382)⟩, ⟨PyData.keyHash P (Str.ofString "read1"), (.str (Str.ofString "read1") 816), (.ref 390)⟩, ⟨PyData.keyHash P (Str.ofString "readinto"), (.str (Str.ofString "readinto") 826), (.ref 397)⟩, ⟨PyData.keyHash P (Str.ofString "readinto1"), (.str (Str.ofString "readinto1") 834), (.ref 404)⟩, ⟨PyData.keyHash P (Str.ofString "readline"), (.str (Str.ofString "readline") 844), (.ref 412)⟩, ⟨PyData.keyHash P (Str.ofString "readlines"), (.str (Str.ofString "readlines") 852), (.ref 420)⟩, ⟨PyData.keyHash P (Str.ofString "__iter__"), (.str (Str.ofString "__iter__") 859), (.ref 427)⟩, ⟨PyData.keyHash P (Str.ofString "__next__"), (.str (Str.ofString "__next__") 867), (.ref 434)⟩, ⟨PyData.keyHash P (Str.ofString "write"), (.str (Str.ofString "write") 877), (.ref 441)⟩, ⟨PyData.keyHash P (Str.ofString "writelines"), (.str (Str.ofString "writelines") 885), (.ref 448)⟩, ⟨PyData.keyHash P (Str.ofString "__repr__"), (.str (Str.ofString "__repr__") 892), (.ref 455)⟩, ⟨PyData.keyHash P (Str.ofString "__static_attributes__"), (.str (Str.ofString "__static_attributes__") 895), (.ref 456)⟩, ⟨PyData.keyHash P (Str.ofString "__doc__"), (.str (Str.ofString "__doc__") 896), .none⟩].toArray) 2), #[]⟩
noncomputable abbrev ob458 (P : Params) : Obj := ⟨(.type "type"), none, (.cls { name := (Str.ofString "BytesIO"), bases := [(.ref 216)], mro := [(.ref 458), (.ref 216), (.ref 201), (.type "object")], ns := 457, qualname := (Str.ofString "BytesIO"), hasDict := true, slotNames := [], subclasses := [], abstract := false, collection := none, hasDel := false }), ([(some (.ref 231)), none, (some (.str (Str.ofString "BytesIO") 637)), (some (.str (Str.ofString "BytesIO") 645)), (some .none), (some (.bool true))].toArray)⟩
noncomputable abbrev ob468 (P : Params) : Obj := ⟨(.type "tuple"), none, (.seq ([(.str (Str.ofString "") 913), (.str (Str.ofString "\n") 914)].toArray) 0), #[]⟩
noncomputable abbrev ob474 (P : Params) : Obj := ⟨(.type "code"), none, (.fields ([(.str (Str.ofString "__init__") 915), (.str (Str.ofString "StringIO.__init__") 916), (.str (Str.ofString "/claim/cut.py") 917), (.int (329) 0), (.int (3) 0), (.int (0) 0), (.int (0) 0), (.int (3) 0), (.ref 469), (.bool true), (.int (318) 0), (.ref 470), .none, (.ref 471), (.ref 472), (.ref 473), (.int (921) 0), (.int (329) 0), (.str (Str.ofString "/claim/cut.py") 922)].toArray)), #[]⟩
noncomputable abbrev bd475 : List Stmt := Subtype.val (p := fun b => bodyS (stIn 30 1) = b) (by refine' ⟨_, _⟩; rotate_left; (conv => lhs; whnf))
noncomputable abbrev ag475 : Arguments := Subtype.val (p := fun b => argsS (stIn 30 1) = b) (by refine' ⟨_, _⟩; rotate_left; (conv => lhs; whnf))
noncomputable abbrev sc475 : Scope := Subtype.val (p := fun b => scopeS (stIn 30 1) = b) (by refine' ⟨_, _⟩; rotate_left; (conv => lhs; whnf))
noncomputable abbrev ob475 (P : Params) : Obj := ⟨(.type "function"), none, (.func { name := (Str.ofString "__init__"), qualname := (Str.ofString "StringIO.__init__"), params := ag475, body := .stmts bd475, scope := sc475, globals := 3, closure := [], defaults := (.ref 468), kwdefaults := .none, doc := .none, pyModule := (.str (Str.ofString "io") 529), annotations := none, code := (.ref 474), closureTuple := .none, builtins := 0 }), #[]⟩
noncomputable abbrev ob481 (P : Params) : Obj := ⟨(.type "code"), none, (.fields ([(.str (Str.ofString "__translated") 924), (.str (Str.ofString "StringIO.__translated") 925), (.str (Str.ofString "/claim/cut.py") 926), (.int (342) 0), (.int (2) 0), (.int (0) 0), (.int (0) 0), (.int (3) 0), (.ref 476), (.bool true), (.int (318) 0), (.ref 477), .none, (.ref 478), (.ref 479), (.ref 480), (.int (930) 0), (.int (342) 0), (.str (Str.ofString "/claim/cut.py") 931)].toArray)), #[]⟩
noncomputable abbrev bd482 : List Stmt := Subtype.val (p := fun b => bodyS (stIn 30 2) = b) (by refine' ⟨_, _⟩; rotate_left; (conv => lhs; whnf))
noncomputable abbrev ag482 : Arguments := Subtype.val (p := fun b => argsS (stIn 30 2) = b) (by refine' ⟨_, _⟩; rotate_left; (conv => lhs; whnf))
noncomputable abbrev sc482 : Scope := Subtype.val (p := fun b => scopeS (stIn 30 2) = b) (by refine' ⟨_, _⟩; rotate_left; (conv => lhs; whnf))
noncomputable abbrev ob482 (P : Params) : Obj := ⟨(.type "function"), none, (.func { name := (Str.ofString "__translated"), qualname := (Str.ofString "StringIO.__translated"), params := ag482, body := .stmts bd482, scope := sc482, globals := 3, closure := [], defaults := .none, kwdefaults := .none, doc := .none, pyModule := (.str (Str.ofString "io") 529), annotations := none, code := (.ref 481), closureTuple := .none, builtins := 0 }), #[]⟩
noncomputable abbrev ob488 (P : Params) : Obj := ⟨(.type "code"), none, (.fields ([(.str (Str.ofString "__check") 933), (.str (Str.ofString "StringIO.__check") 934), (.str (Str.ofString "/claim/cut.py") 935), (.int (350) 0), (.int (1) 0), (.int (0) 0), (.int (0) 0), (.int (3) 0), (.ref 483), (.bool true), (.int (318) 0), (.ref 484), .none, (.ref 485), (.ref 486), (.ref 487), (.int (937) 0), (.int (350) 0), (.str (Str.ofString "/claim/cut.py") 938)].toArray)), #[]⟩
noncomputable abbrev bd489 : List Stmt := Subtype.val (p := fun b => bodyS (stIn 30 3) = b) (by refine' ⟨_, _⟩; rotate_left; (conv => lhs; whnf))
noncomputable abbrev ag489 : Arguments := Subtype.val (p := fun b => argsS (stIn 30 3) = b) (by refine' ⟨_, _⟩; rotate_left; (conv => lhs; whnf))
noncomputable abbrev sc489 : Scope := Subtype.val (p := fun b => scopeS (stIn 30 3) = b) (by refine' ⟨_, _⟩; rotate_left; (conv => lhs; whnf))
noncomputable abbrev ob489 (P : Params) : Obj := ⟨(.type "function"), none, (.func { name := (Str.ofString "__check"), qualname := (Str.ofString "StringIO.__check"), params := ag489, body := .stmts bd489, scope := sc489, globals := 3, closure := [], defaults := .none, kwdefaults := .none, doc := .none, pyModule := (.str (Str.ofString "io") 529), annotations := none, code := (.ref 488), closureTuple := .none, builtins := 0 }), #[]⟩
noncomputable abbrev ob644 (P : Params) : Obj := ⟨(.type "tuple"), none, (.seq ([(.int (-1) 1106)].toArray) 0), #[]⟩
noncomputable abbrev ob650 (P : Params) : Obj := ⟨(.type "code"), none, (.fields ([(.str (Str.ofString "read") 1107), (.str (Str.ofString "StringIO.read") 1108), (.str (Str.ofString "/claim/cut.py") 1109), (.int (472) 0), (.int (2) 0), (.int (2) 0), (.int (0) 0), (.int (3) 0), (.ref 645), (.bool true), (.int (318) 0), (.ref 646), .none, (.ref 647), (.ref 648), (.ref 649), (.int (1114) 0), (.int (472) 0), (.str (Str.ofString "/claim/cut.py") 1115)].toArray)), #[]⟩
noncomputable abbrev bd651 : List Stmt := Subtype.val (p := fun b => bodyS (stIn 30 25) = b) (by refine' ⟨_, _⟩; rotate_left; (conv => lhs; whnf))
noncomputable abbrev ag651 : Arguments := Subtype.val (p := fun b => argsS (stIn 30 25) = b) (by refine' ⟨_, _⟩; rotate_left; (conv => lhs; whnf))
noncomputable abbrev sc651 : Scope := Subtype.val (p := fun b => scopeS (stIn 30 25) = b) (by refine' ⟨_, _⟩; rotate_left; (conv => lhs; whnf))
noncomputable abbrev ob651 (P : Params) : Obj := ⟨(.type "function"), none, (.func { name := (Str.ofString "read"), qualname := (Str.ofString "StringIO.read"), params := ag651, body := .stmts bd651, scope := sc651, globals := 3, closure := [], defaults := (.ref 644), kwdefaults := .none, doc := .none, pyModule := (.str (Str.ofString "io") 529), annotations := none, code := (.ref 650), closureTuple := .none, builtins := 0 }), #[]⟩
noncomputable abbrev ob704 (P : Params) : Obj := ⟨(.type "dict"), none, (.dict ([⟨PyData.keyHash P (Str.ofString "__module__"), (.str (Str.ofString "__module__") 906), (.str (Str.ofString "_io") 911)⟩, ⟨PyData.keyHash P (Str.ofString "__firstlineno__"), (.str (Str.ofString "__firstlineno__") 910), (.int (326) 909)⟩, ⟨PyData.keyHash P (Str.ofString "__init__"), (.str (Str.ofString "__init__") 923), (.ref 475)⟩, ⟨PyData.keyHash P (Str.ofString "_StringIO__translated"), (.str (Str.ofString "_StringIO__translated") 932), (.ref 482)⟩, ⟨PyData.keyHash P (Str.ofString "_StringIO__check"), (.str (Str.ofString "_StringIO__check") 939), (.ref 489)⟩, ⟨PyData.keyHash P (Str.ofString "_StringIO__check_dot"), (.str (Str.ofString "_StringIO__check_dot") 946), (.ref 496)⟩, ⟨PyData.keyHash P (Str.ofString "_StringIO__line"), (.str (Str.ofString "_StringIO__line") 961), (.ref 503)⟩, ⟨PyData.keyHash P (Str.ofString "closed"), (.str (Str.ofString "closed") 969), (.ref 511)⟩, ⟨PyData.keyHash P (Str.ofString "line_buffering"), (.str (Str.ofString "line_buffering") 977), (.ref 519)⟩, ⟨PyData.keyHash P (Str.ofString "newlines"), (.str (Str.ofString "newlines") 985), (.ref 527)⟩, ⟨PyData.keyHash P (Str.ofString "encoding"), (.str (Str.ofString "encoding") 993), (.ref 535)⟩, ⟨PyData.keyHash P (Str.ofString "errors"), (.str (Str.ofString "errors") 1001), (.ref 543)⟩, ⟨PyData.keyHash P (Str.ofString "close"), (.str (Str.ofString "close") 1008), (.ref 550)⟩, ⟨PyData.keyHash P (Str.ofString "__enter__"), (.str (Str.ofString "__enter__") 1015), (.ref 557)⟩, ⟨PyData.keyHash P (Str.ofString "__exit__"), (.str (Str.ofString "__exit__") 1023), (.ref 564)⟩, ⟨PyData.keyHash P (Str.ofString "readable"), (.str (Str.ofString "readable") 1030), (.ref 571)⟩, ⟨PyData.keyHash P (Str.ofString "writable"), (.str (Str.ofString "writable") 1037), (.ref 578)⟩, ⟨PyData.keyHash P (Str.ofString "seekable"), (.str (Str.ofString "seekable") 1044), (.ref 585)⟩, ⟨PyData.keyHash P (Str.ofString "isatty"), (.str (Str.ofString "isatty") 1051), (.ref 592)⟩, ⟨PyData.keyHash P (Str.ofString "flush"), (.str (Str.ofString "flush") 1058), (.ref 599)⟩, ⟨PyData.keyHash P (Str.ofString "fileno"), (.str (Str.ofString "fileno") 1065), (.ref 606)⟩, ⟨PyData.keyHash P (Str.ofString "detach"), (.str (Str.ofString "detach") 1072), (.ref 613)⟩, ⟨PyData.keyHash P (Str.ofString "getvalue"), (.str (Str.ofString "getvalue") 1079), (.ref 620)⟩, ⟨PyData.keyHash P (Str.ofString "tell"), (.str (Str.ofString "tell") 1086), (.ref 627)⟩, ⟨PyData.keyHash P (Str.ofString "seek"), (.str (Str.ofString "seek") 1096), (.ref 635)⟩, ⟨PyData.keyHash P (Str.ofString "truncate"), (.str (Str.ofString "truncate") 1104), (.ref 643)⟩, ⟨PyData.keyHash P (Str.ofString "read"), (.str (Str.ofString "read") 1116), (.ref 651)⟩, ⟨PyData.keyHash P (Str.ofString "readline"), (.str (Str.ofString "readline") 1126), (.ref 659)⟩, ⟨PyData.keyHash P (Str.ofString "readlines"), (.str (Str.ofString "readlines") 1136), (.ref 667)⟩, ⟨PyData.keyHash P (Str.ofString "__iter__"), (.str (Str.ofString "__iter__") 1143), (.ref 674)⟩, ⟨PyData.keyHash P (Str.ofString "__next__"), (.str (Str.ofString "__next__") 1151), (.ref 681)⟩, ⟨PyData.keyHash P (Str.ofString "write"), (.str (Str.ofString "write") 1163), (.ref 688)⟩, ⟨PyData.keyHash P (Str.ofString "writelines"), (.str (Str.ofString "writelines") 1171), (.ref 695)⟩, ⟨PyData.keyHash P (Str.ofString "__repr__"), (.str (Str.ofString "__repr__") 1178), (.ref 702)⟩, ⟨PyData.keyHash P (Str.ofString "__static_attributes__"), (.str (Str.ofString "__static_attributes__") 1182), (.ref 703)⟩, ⟨PyData.keyHash P (Str.ofString "__doc__"), (.str (Str.ofString "__doc__") 1183), .none⟩].toArray) 2), #[]⟩
noncomputable abbrev ob705 (P : Params) : Obj := ⟨(.type "type"), none, (.cls { name := (Str.ofString "StringIO"), bases := [(.ref 228)], mro := [(.ref 705), (.ref 228), (.ref 201), (.type "object")], ns := 704, qualname := (Str.ofString "StringIO"), hasDict := true, slotNames := [], subclasses := [], abstract := false, collection := none, hasDel := false }), ([(some (.ref 461)), none, (some (.str (Str.ofString "StringIO") 899)), (some (.str (Str.ofString "StringIO") 907)), (some .none), (some (.bool true))].toArray)⟩
noncomputable abbrev ob741 (P : Params) : Obj := ⟨(.type "code"), none, (.fields ([(.str (Str.ofString "join") 1224), (.str (Str.ofString "join") 1225), (.str (Str.ofString "/claim/cut.py") 1226), (.int (567) 0), (.int (1) 0), (.int (0) 0), (.int (0) 0), (.int (7) 0), (.ref 736), (.bool true), (.int (318) 0), (.ref 737), .none, (.ref 738), (.ref 739), (.ref 740), (.int (1232) 0), (.int (567) 0), (.str (Str.ofString "/claim/cut.py") 1233)].toArray)), #[]⟩
noncomputable abbrev bd742 : List Stmt := Subtype.val (p := fun b => bodyS (stAt 37) = b) (by refine' ⟨_, _⟩; rotate_left; (conv => lhs; whnf))
noncomputable abbrev ag742 : Arguments := Subtype.val (p := fun b => argsS (stAt 37) = b) (by refine' ⟨_, _⟩; rotate_left; (conv => lhs; whnf))
noncomputable abbrev sc742 : Scope := Subtype.val (p := fun b => scopeS (stAt 37) = b) (by refine' ⟨_, _⟩; rotate_left; (conv => lhs; whnf))
noncomputable abbrev ob742 (P : Params) : Obj := ⟨(.type "function"), none, (.func { name := (Str.ofString "join"), qualname := (Str.ofString "join"), params := ag742, body := .stmts bd742, scope := sc742, globals := 3, closure := [], defaults := .none, kwdefaults := .none, doc := .none, pyModule := (.str (Str.ofString "os.path") 1186), annotations := none, code := (.ref 741), closureTuple := .none, builtins := 0 }), #[]⟩
noncomputable abbrev ob757 (P : Params) : Obj := ⟨(.type "tuple"), none, (.seq ([.none, .none, (.bool false), (.bool false)].toArray) 0), #[]⟩
noncomputable abbrev ob763 (P : Params) : Obj := ⟨(.type "code"), none, (.fields ([(.str (Str.ofString "__init__") 1260), (.str (Str.ofString "shlex.__init__") 1261), (.str (Str.ofString "/claim/cut.py") 1262), (.int (599) 0), (.int (5) 0), (.int (0) 0), (.int (0) 0), (.int (3) 0), (.ref 758), (.bool true), (.int (318) 0), (.ref 759), .none, (.ref 760), (.ref 761), (.ref 762), (.int (1269) 0), (.int (599) 0), (.str (Str.ofString "/claim/cut.py") 1270)].toArray)), #[]⟩
noncomputable abbrev bd764 : List Stmt := Subtype.val (p := fun b => bodyS (stIn 41 0) = b) (by refine' ⟨_, _⟩; rotate_left; (conv => lhs; whnf))
noncomputable abbrev ag764 : Arguments := Subtype.val (p := fun b => argsS (stIn 41 0) = b) (by refine' ⟨_, _⟩; rotate_left; (conv => lhs; whnf))
noncomputable abbrev sc764 : Scope := Subtype.val (p := fun b => scopeS (stIn 41 0) = b) (by refine' ⟨_, _⟩; rotate_left; (conv => lhs; whnf))
noncomputable abbrev ob764 (P : Params) : Obj := ⟨(.type "function"), none, (.func { name := (Str.ofString "__init__"), qualname := (Str.ofString "shlex.__init__"), params := ag764, body := .stmts bd764, scope := sc764, globals := 3, closure := [], defaults := (.ref 757), kwdefaults := .none, doc := .none, pyModule := (.str (Str.ofString "cpy313.shlex") 1246), annotations := none, code := (.ref 763), closureTuple := .none, builtins := 0 }), #[]⟩
noncomputable abbrev ob770 (P : Params) : Obj := ⟨(.type "code"), none, (.fields ([(.str (Str.ofString "punctuation_chars") 1272), (.str (Str.ofString "shlex.punctuation_chars") 1273), (.str (Str.ofString "/claim/cut.py") 1274), (.int (640) 0), (.int (1) 0), (.int (0) 0), (.int (0) 0), (.int (3) 0), (.ref 765), (.bool true), (.int (318) 0), (.ref 766), .none, (.ref 767), (.ref 768), (.ref 769), (.int (1276) 0), (.int (640) 0), (.str (Str.ofString "/claim/cut.py") 1277)].toArray)), #[]⟩
noncomputable abbrev bd771 : List Stmt := Subtype.val (p := fun b => bodyS (stIn 41 1) = b) (by refine' ⟨_, _⟩; rotate_left; (conv => lhs; whnf))
noncomputable abbrev ag771 : Arguments := Subtype.val (p := fun b => argsS (stIn 41 1) = b) (by refine' ⟨_, _⟩; rotate_left; (conv => lhs; whnf))
noncomputable abbrev sc771 : Scope := Subtype.val (p := fun b => scopeS (stIn 41 1) = b) (by refine' ⟨_, _⟩; rotate_left; (conv => lhs; whnf))
noncomputable abbrev ob771 (P : Params) : Obj := ⟨(.type "function"), none, (.func { name := (Str.ofString "punctuation_chars"), qualname := (Str.ofString "shlex.punctuation_chars"), params := ag771, body := .stmts bd771, scope := sc771, globals := 3, closure := [], defaults := .none, kwdefaults := .none, doc := .none, pyModule := (.str (Str.ofString "cpy313.shlex") 1246), annotations := none, code := (.ref 770), closureTuple := .none, builtins := 0 }), #[]⟩
noncomputable abbrev ob772 (P : Params) : Obj := ⟨(.type "property"), none, (.fields ([(.ref 771), .none, .none, .none, (.str (Str.ofString "punctuation_chars") 1279), (.bool false)].toArray)), #[]⟩
noncomputable abbrev ob800 (P : Params) : Obj := ⟨(.type "code"), none, (.fields ([(.str (Str.ofString "get_token") 1304), (.str (Str.ofString "shlex.get_token") 1305), (.str (Str.ofString "/claim/cut.py") 1306), (.int (667) 0), (.int (1) 0), (.int (0) 0), (.int (0) 0), (.int (3) 0), (.ref 795), (.bool true), (.int (318) 0), (.ref 796), .none, (.ref 797), (.ref 798), (.ref 799), (.int (1313) 0), (.int (667) 0), (.str (Str.ofString "/claim/cut.py") 1314)].toArray)), #[]⟩
noncomputable abbrev bd801 : List Stmt := Subtype.val (p := fun b => bodyS (stIn 41 5) = b) (by refine' ⟨_, _⟩; rotate_left; (conv => lhs; whnf))
noncomputable abbrev ag801 : Arguments := Subtype.val (p := fun b => argsS (stIn 41 5) = b) (by refine' ⟨_, _⟩; rotate_left; (conv => lhs; whnf))
noncomputable abbrev sc801 : Scope := Subtype.val (p := fun b => scopeS (stIn 41 5) = b) (by refine' ⟨_, _⟩; rotate_left; (conv => lhs; whnf))
noncomputable abbrev ob801 (P : Params) : Obj := ⟨(.type "function"), none, (.func { name := (Str.ofString "get_token"), qualname := (Str.ofString "shlex.get_token"), params := ag801, body := .stmts bd801, scope := sc801, globals := 3, closure := [], defaults := .none, kwdefaults := .none, doc := .none, pyModule := (.str (Str.ofString "cpy313.shlex") 1246), annotations := none, code := (.ref 800), closureTuple := .none, builtins := 0 }), #[]⟩
noncomputable abbrev ob807 (P : Params) : Obj := ⟨(.type "code"), none, (.fields ([(.str (Str.ofString "read_token") 1316), (.str (Str.ofString "shlex.read_token") 1317), (.str (Str.ofString "/claim/cut.py") 1318), (.int (694) 0), (.int (1) 0), (.int (0) 0), (.int (0) 0), (.int (3) 0), (.ref 802), (.bool true), (.int (318) 0), (.ref 803), .none, (.ref 804), (.ref 805), (.ref 806), (.int (1324) 0), (.int (694) 0), (.str (Str.ofString "/claim/cut.py") 1325)].toArray)), #[]⟩
noncomputable abbrev bd808 : List Stmt := Subtype.val (p := fun b => bodyS (stIn 41 6) = b) (by refine' ⟨_, _⟩; rotate_left; (conv => lhs; whnf))
noncomputable abbrev ag808 : Arguments := Subtype.val (p := fun b => argsS (stIn 41 6) = b) (by refine' ⟨_, _⟩; rotate_left; (conv => lhs; whnf))
noncomputable abbrev sc808 : Scope := Subtype.val (p := fun b => scopeS (stIn 41 6) = b) (by refine' ⟨_, _⟩; rotate_left; (conv => lhs; whnf))
noncomputable abbrev ob808 (P : Params) : Obj := ⟨(.type "function"), none, (.func { name := (Str.ofString "read_token"), qualname := (Str.ofString "shlex.read_token"), params := ag808, body := .stmts bd808, scope := sc808, globals := 3, closure := [], defaults := .none, kwdefaults := .none, doc := .none, pyModule := (.str (Str.ofString "cpy313.shlex") 1246), annotations := none, code := (.ref 807), closureTuple := .none, builtins := 0 }), #[]⟩
noncomputable abbrev ob829 (P : Params) : Obj := ⟨(.type "code"), none, (.fields ([(.str (Str.ofString "__iter__") 1344), (.str (Str.ofString "shlex.__iter__") 1345), (.str (Str.ofString "/claim/cut.py") 1346), (.int (841) 0), (.int (1) 0), (.int (0) 0), (.int (0) 0), (.int (3) 0), (.ref 824), (.bool true), (.int (318) 0), (.ref 825), .none, (.ref 826), (.ref 827), (.ref 828), (.int (1348) 0), (.int (841) 0), (.str (Str.ofString "/claim/cut.py") 1349)].toArray)), #[]⟩
noncomputable abbrev bd830 : List Stmt := Subtype.val (p := fun b => bodyS (stIn 41 9) = b) (by refine' ⟨_, _⟩; rotate_left; (conv => lhs; whnf))
noncomputable abbrev ag830 : Arguments := Subtype.val (p := fun b => argsS (stIn 41 9) = b) (by refine' ⟨_, _⟩; rotate_left; (conv => lhs; whnf))
noncomputable abbrev sc830 : Scope := Subtype.val (p := fun b => scopeS (stIn 41 9) = b) (by refine' ⟨_, _⟩; rotate_left; (conv => lhs; whnf))
noncomputable abbrev ob830 (P : Params) : Obj := ⟨(.type "function"), none, (.func { name := (Str.ofString "__iter__"), qualname := (Str.ofString "shlex.__iter__"), params := ag830, body := .stmts bd830, scope := sc830, globals := 3, closure := [], defaults := .none, kwdefaults := .none, doc := .none, pyModule := (.str (Str.ofString "cpy313.shlex") 1246), annotations := none, code := (.ref 829), closureTuple := .none, builtins := 0 }), #[]⟩
noncomputable abbrev ob836 (P : Params) : Obj := ⟨(.type "code"), none, (.fields ([(.str (Str.ofString "__next__") 1351), (.str (Str.ofString "shlex.__next__") 1352), (.str (Str.ofString "/claim/cut.py") 1353), (.int (844) 0), (.int (1) 0), (.int (0) 0), (.int (0) 0), (.int (3) 0), (.ref 831), (.bool true), (.int (318) 0), (.ref 832), .none, (.ref 833), (.ref 834), (.ref 835), (.int (1356) 0), (.int (844) 0), (.str (Str.ofString "/claim/cut.py") 1357)].toArray)), #[]⟩
noncomputable abbrev bd837 : List Stmt := Subtype.val (p := fun b => bodyS (stIn 41 10) = b) (by refine' ⟨_, _⟩; rotate_left; (conv => lhs; whnf))
noncomputable abbrev ag837 : Arguments := Subtype.val (p := fun b => argsS (stIn 41 10) = b) (by refine' ⟨_, _⟩; rotate_left; (conv => lhs; whnf))
noncomputable abbrev sc837 : Scope := Subtype.val (p := fun b => scopeS (stIn 41 10) = b) (by refine' ⟨_, _⟩; rotate_left; (conv => lhs; whnf))
noncomputable abbrev ob837 (P : Params) : Obj := ⟨(.type "function"), none, (.func { name := (Str.ofString "__next__"), qualname := (Str.ofString "shlex.__next__"), params := ag837, body := .stmts bd837, scope := sc837, globals := 3, closure := [], defaults := .none, kwdefaults := .none, doc := .none, pyModule := (.str (Str.ofString "cpy313.shlex") 1246), annotations := none, code := (.ref 836), closureTuple := .none, builtins := 0 }), #[]⟩
noncomputable abbrev ob839 (P : Params) : Obj := ⟨(.type "dict"), none, (.dict ([⟨PyData.keyHash P (Str.ofString "__module__"), (.str (Str.ofString "__module__") 1255), (.str (Str.ofString "cpy313.shlex") 1246)⟩, ⟨PyData.keyHash P (Str.ofString "__firstlineno__"), (.str (Str.ofString "__firstlineno__") 1259), (.int (597) 1258)⟩, ⟨PyData.keyHash P (Str.ofString "__init__"), (.str (Str.ofString "__init__") 1271), (.ref 764)⟩, ⟨PyData.keyHash P (Str.ofString "punctuation_chars"), (.str (Str.ofString "punctuation_chars") 1279), (.ref 772)⟩, ⟨PyData.keyHash P (Str.ofString "push_token"), (.str (Str.ofString "push_token") 1287), (.ref 779)⟩, ⟨PyData.keyHash P (Str.ofString "push_source"), (.str (Str.ofString "push_source") 1296), (.ref 787)⟩, ⟨PyData.keyHash P (Str.ofString "pop_source"), (.str (Str.ofString "pop_source") 1303), (.ref 794)⟩, ⟨PyData.keyHash P (Str.ofString "get_token"), (.str (Str.ofString "get_token") 1315), (.ref 801)⟩, ⟨PyData.keyHash P (Str.ofString "read_token"), (.str (Str.ofString "read_token") 1326), (.ref 808)⟩, ⟨PyData.keyHash P (Str.ofString "sourcehook"), (.str (Str.ofString "sourcehook") 1334), (.ref 815)⟩, ⟨PyData.keyHash P (Str.ofString "error_leader"), (.str (Str.ofString "error_leader") 1343), (.ref 823)⟩, ⟨PyData.keyHash P (Str.ofString "__iter__"), (.str (Str.ofString "__iter__") 1350), (.ref 830)⟩, ⟨PyData.keyHash P (Str.ofString "__next__"), (.str (Str.ofString "__next__") 1358), (.ref 837)⟩, ⟨PyData.keyHash P (Str.ofString "__static_attributes__"), (.str (Str.ofString "__static_attributes__") 1379), (.ref 838)⟩, ⟨PyData.keyHash P (Str.ofString "__dict__"), (.str (Str.ofString "__dict__") 1381), (.ref 841)⟩, ⟨PyData.keyHash P (Str.ofString "__weakref__"), (.str (Str.ofString "__weakref__") 1383), (.ref 842)⟩, ⟨PyData.keyHash P (Str.ofString "__doc__"), (.str (Str.ofString "__doc__") 1384), .none⟩].toArray) 4), #[]⟩
noncomputable abbrev ob840 (P : Params) : Obj := ⟨(.type "type"), none, (.cls { name := (Str.ofString "shlex"), bases := [(.type "object")], mro := [(.ref 840), (.type "object")], ns := 839, qualname := (Str.ofString "shlex"), hasDict := true, slotNames := [], subclasses := [], abstract := false, collection := none, hasDel := false }), ([none, none, (some (.str (Str.ofString "shlex") 1248)), (some (.str (Str.ofString "shlex") 1256)), (some (.builtin "object.__new__")), (some (.bool true))].toArray)⟩
noncomputable abbrev ob845 (P : Params) : Obj := ⟨(.type "tuple"), none, (.seq ([(.bool false), (.bool true)].toArray) 0), #[]⟩
noncomputable abbrev ob851 (P : Params) : Obj := ⟨(.type "code"), none, (.fields ([(.str (Str.ofString "split") 1387), (.str (Str.ofString "split") 1388), (.str (Str.ofString "/claim/cut.py") 1389), (.int (849) 0), (.int (3) 0), (.int (0) 0), (.int (0) 0), (.int (3) 0), (.ref 846), (.bool true), (.int (318) 0), (.ref 847), .none, (.ref 848), (.ref 849), (.ref 850), (.int (1394) 0), (.int (849) 0), (.str (Str.ofString "/claim/cut.py") 1395)].toArray)), #[]⟩
noncomputable abbrev bd852 : List Stmt := Subtype.val (p := fun b => bodyS (stAt 42) = b) (by refine' ⟨_, _⟩; rotate_left; (conv => lhs; whnf))
noncomputable abbrev ag852 : Arguments := Subtype.val (p := fun b => argsS (stAt 42) = b) (by refine' ⟨_, _⟩; rotate_left; (conv => lhs; whnf))
noncomputable abbrev sc852 : Scope := Subtype.val (p := fun b => scopeS (stAt 42) = b) (by refine' ⟨_, _⟩; rotate_left; (conv => lhs; whnf))
noncomputable abbrev ob852 (P : Params) : Obj := ⟨(.type "function"), none, (.func { name := (Str.ofString "split"), qualname := (Str.ofString "split"), params := ag852, body := .stmts bd852, scope := sc852, globals := 3, closure := [], defaults := (.ref 845), kwdefaults := .none, doc := .none, pyModule := (.str (Str.ofString "cpy313.shlex") 1246), annotations := none, code := (.ref 851), closureTuple := .none, builtins := 0 }), #[]⟩
noncomputable abbrev ob853 (P : Params) : Obj := ⟨(.type "builtin_function_or_method"), none, (.fields ([(.builtin "re.Pattern.search"), (.ref 157)].toArray)), #[]⟩
noncomputable abbrev ob859 (P : Params) : Obj := ⟨(.type "code"), none, (.fields ([(.str (Str.ofString "quote") 1399), (.str (Str.ofString "quote") 1400), (.str (Str.ofString "/claim/cut.py") 1401), (.int (858) 0), (.int (1) 0), (.int (0) 0), (.int (0) 0), (.int (3) 0), (.ref 854), (.bool true), (.int (318) 0), (.ref 855), .none, (.ref 856), (.ref 857), (.ref 858), (.int (1403) 0), (.int (858) 0), (.str (Str.ofString "/claim/cut.py") 1404)].toArray)), #[]⟩
noncomputable abbrev bd860 : List Stmt := Subtype.val (p := fun b => bodyS (stAt 44) = b) (by refine' ⟨_, _⟩; rotate_left; (conv => lhs; whnf))
noncomputable abbrev ag860 : Arguments := Subtype.val (p := fun b => argsS (stAt 44) = b) (by refine' ⟨_, _⟩; rotate_left; (conv => lhs; whnf))
noncomputable abbrev sc860 : Scope := Subtype.val (p := fun b => scopeS (stAt 44) = b) (by refine' ⟨_, _⟩; rotate_left; (conv => lhs; whnf))
noncomputable abbrev ob860 (P : Params) : Obj := ⟨(.type "function"), none, (.func { name := (Str.ofString "quote"), qualname := (Str.ofString "quote"), params := ag860, body := .stmts bd860, scope := sc860, globals := 3, closure := [], defaults := .none, kwdefaults := .none, doc := .none, pyModule := (.str (Str.ofString "cpy313.shlex") 1246), annotations := none, code := (.ref 859), closureTuple := .none, builtins := 0 }), #[]⟩
noncomputable abbrev ob866 (P : Params) : Obj := ⟨(.type "code"), none, (.fields ([(.str (Str.ofString "_law_tour") 1408), (.str (Str.ofString "_law_tour") 1409), (.str (Str.ofString "/claim/cut.py") 1410), (.int (865) 0), (.int (1) 0), (.int (0) 0), (.int (0) 0), (.int (3) 0), (.ref 861), (.bool true), (.int (318) 0), (.ref 862), .none, (.ref 863), (.ref 864), (.ref 865), (.int (1427) 0), (.int (865) 0), (.str (Str.ofString "/claim/cut.py") 1428)].toArray)), #[]⟩
noncomputable abbrev bd867 : List Stmt := Subtype.val (p := fun b => bodyS (stAt 46) = b) (by refine' ⟨_, _⟩; rotate_left; (conv => lhs; whnf))
noncomputable abbrev ag867 : Arguments := Subtype.val (p := fun b => argsS (stAt 46) = b) (by refine' ⟨_, _⟩; rotate_left; (conv => lhs; whnf))
noncomputable abbrev sc867 : Scope := Subtype.val (p := fun b => scopeS (stAt 46) = b) (by refine' ⟨_, _⟩; rotate_left; (conv => lhs; whnf))
noncomputable abbrev ob867 (P : Params) : Obj := ⟨(.type "function"), none, (.func { name := (Str.ofString "_law_tour"), qualname := (Str.ofString "_law_tour"), params := ag867, body := .stmts bd867, scope := sc867, globals := 3, closure := [], defaults := .none, kwdefaults := .none, doc := .none, pyModule := (.str (Str.ofString "law_pd0032_01") 1406), annotations := none, code := (.ref 866), closureTuple := .none, builtins := 0 }), #[]⟩
noncomputable abbrev ob873 (P : Params) : Obj := ⟨(.type "code"), none, (.fields ([(.str (Str.ofString "_law_spell") 1430), (.str (Str.ofString "_law_spell") 1431), (.str (Str.ofString "/claim/cut.py") 1432), (.int (899) 0), (.int (2) 0), (.int (0) 0), (.int (0) 0), (.int (3) 0), (.ref 868), (.bool true), (.int (318) 0), (.ref 869), .none, (.ref 870), (.ref 871), (.ref 872), (.int (1438) 0), (.int (899) 0), (.str (Str.ofString "/claim/cut.py") 1439)].toArray)), #[]⟩
noncomputable abbrev bd874 : List Stmt := Subtype.val (p := fun b => bodyS (stAt 47) = b) (by refine' ⟨_, _⟩; rotate_left; (conv => lhs; whnf))
noncomputable abbrev ag874 : Arguments := Subtype.val (p := fun b => argsS (stAt 47) = b) (by refine' ⟨_, _⟩; rotate_left; (conv => lhs; whnf))
noncomputable abbrev sc874 : Scope := Subtype.val (p := fun b => scopeS (stAt 47) = b) (by refine' ⟨_, _⟩; rotate_left; (conv => lhs; whnf))
noncomputable abbrev ob874 (P : Params) : Obj := ⟨(.type "function"), none, (.func { name := (Str.ofString "_law_spell"), qualname := (Str.ofString "_law_spell"), params := ag874, body := .stmts bd874, scope := sc874, globals := 3, closure := [], defaults := .none, kwdefaults := .none, doc := .none, pyModule := (.str (Str.ofString "law_pd0032_01") 1406), annotations := none, code := (.ref 873), closureTuple := .none, builtins := 0 }), #[]⟩
noncomputable abbrev ob880 (P : Params) : Obj := ⟨(.type "code"), none, (.fields ([(.str (Str.ofString "_law_line") 1441), (.str (Str.ofString "_law_line") 1442), (.str (Str.ofString "/claim/cut.py") 1443), (.int (913) 0), (.int (2) 0), (.int (0) 0), (.int (0) 0), (.int (3) 0), (.ref 875), (.bool true), (.int (318) 0), (.ref 876), .none, (.ref 877), (.ref 878), (.ref 879), (.int (1450) 0), (.int (913) 0), (.str (Str.ofString "/claim/cut.py") 1451)].toArray)), #[]⟩
noncomputable abbrev bd881 : List Stmt := Subtype.val (p := fun b => bodyS (stAt 48) = b) (by refine' ⟨_, _⟩; rotate_left; (conv => lhs; whnf))
noncomputable abbrev ag881 : Arguments := Subtype.val (p := fun b => argsS (stAt 48) = b) (by refine' ⟨_, _⟩; rotate_left; (conv => lhs; whnf))
noncomputable abbrev sc881 : Scope := Subtype.val (p := fun b => scopeS (stAt 48) = b) (by refine' ⟨_, _⟩; rotate_left; (conv => lhs; whnf))
noncomputable abbrev ob881 (P : Params) : Obj := ⟨(.type "function"), none, (.func { name := (Str.ofString "_law_line"), qualname := (Str.ofString "_law_line"), params := ag881, body := .stmts bd881, scope := sc881, globals := 3, closure := [], defaults := .none, kwdefaults := .none, doc := .none, pyModule := (.str (Str.ofString "law_pd0032_01") 1406), annotations := none, code := (.ref 880), closureTuple := .none, builtins := 0 }), #[]⟩
noncomputable abbrev ob885 (P : Params) : Obj := ⟨(.type "code"), none, (.fields ([(.str (Str.ofString "_law_text") 1453), (.str (Str.ofString "_law_text") 1454), (.str (Str.ofString "/claim/cut.py") 1455), (.int (919) 0), (.int (1) 0), (.int (0) 0), (.int (0) 0), (.int (3) 0), (.ref 882), (.bool true), (.int (318) 0), (.ref 883), .none, .none, .none, (.ref 884), (.int (1456) 0), (.int (919) 0), (.str (Str.ofString "/claim/cut.py") 1457)].toArray)), #[]⟩
noncomputable abbrev bd886 : List Stmt := Subtype.val (p := fun b => bodyS (stAt 49) = b) (by refine' ⟨_, _⟩; rotate_left; (conv => lhs; whnf))
noncomputable abbrev ag886 : Arguments := Subtype.val (p := fun b => argsS (stAt 49) = b) (by refine' ⟨_, _⟩; rotate_left; (conv => lhs; whnf))
noncomputable abbrev sc886 : Scope := Subtype.val (p := fun b => scopeS (stAt 49) = b) (by refine' ⟨_, _⟩; rotate_left; (conv => lhs; whnf))
noncomputable abbrev ob886 (P : Params) : Obj := ⟨(.type "function"), none, (.func { name := (Str.ofString "_law_text"), qualname := (Str.ofString "_law_text"), params := ag886, body := .stmts bd886, scope := sc886, globals := 3, closure := [], defaults := .none, kwdefaults := .none, doc := .none, pyModule := (.str (Str.ofString "law_pd0032_01") 1406), annotations := none, code := (.ref 885), closureTuple := .none, builtins := 0 }), #[]⟩
noncomputable abbrev ob890 (P : Params) : Obj := ⟨(.type "code"), none, (.fields ([(.str (Str.ofString "law") 1459), (.str (Str.ofString "law") 1460), (.str (Str.ofString "/claim/cut.py") 1461), (.int (924) 0), (.int (1) 0), (.int (0) 0), (.int (0) 0), (.int (3) 0), (.ref 887), (.bool true), (.int (318) 0), (.ref 888), .none, .none, .none, (.ref 889), (.int (1462) 0), (.int (924) 0), (.str (Str.ofString "/claim/cut.py") 1463)].toArray)), #[]⟩
noncomputable abbrev bd891 : List Stmt := Subtype.val (p := fun b => bodyS (stAt 50) = b) (by refine' ⟨_, _⟩; rotate_left; (conv => lhs; whnf))
noncomputable abbrev ag891 : Arguments := Subtype.val (p := fun b => argsS (stAt 50) = b) (by refine' ⟨_, _⟩; rotate_left; (conv => lhs; whnf))
noncomputable abbrev sc891 : Scope := Subtype.val (p := fun b => scopeS (stAt 50) = b) (by refine' ⟨_, _⟩; rotate_left; (conv => lhs; whnf))
noncomputable abbrev ob891 (P : Params) : Obj := ⟨(.type "function"), none, (.func { name := (Str.ofString "law"), qualname := (Str.ofString "law"), params := ag891, body := .stmts bd891, scope := sc891, globals := 3, closure := [], defaults := .none, kwdefaults := .none, doc := .none, pyModule := (.str (Str.ofString "law_pd0032_01") 1406), annotations := none, code := (.ref 890), closureTuple := .none, builtins := 0 }), #[]⟩
noncomputable def KFr (P : Params) : Frag := [(nat_lit 2, ob2 P), (nat_lit 3, ob3 P), (nat_lit 116, ob116 P), (nat_lit 117, ob117 P), (nat_lit 130, ob130 P), (nat_lit 131, ob131 P), (nat_lit 137, ob137 P), (nat_lit 138, ob138 P), (nat_lit 144, ob144 P), (nat_lit 145, ob145 P), (nat_lit 151, ob151 P), (nat_lit 152, ob152 P), (nat_lit 156, ob156 P), (nat_lit 157, ob157 P), (nat_lit 170, ob170 P), (nat_lit 171, ob171 P), (nat_lit 197, ob197 P), (nat_lit 198, ob198 P), (nat_lit 200, ob200 P), (nat_lit 201, ob201 P), (nat_lit 202, ob202 P), (nat_lit 215, ob215 P), (nat_lit 216, ob216 P), (nat_lit 227, ob227 P), (nat_lit 228, ob228 P), (nat_lit 457, ob457 P), (nat_lit 458, ob458 P), (nat_lit 468, ob468 P), (nat_lit 474, ob474 P), (nat_lit 475, ob475 P), (nat_lit 481, ob481 P), (nat_lit 482, ob482 P), (nat_lit 488, ob488 P), (nat_lit 489, ob489 P), (nat_lit 644, ob644 P), (nat_lit 650, ob650 P), (nat_lit 651, ob651 P), (nat_lit 704, ob704 P), (nat_lit 705, ob705 P), (nat_lit 741, ob741 P), (nat_lit 742, ob742 P), (nat_lit 757, ob757 P), (nat_lit 763, ob763 P), (nat_lit 764, ob764 P), (nat_lit 770, ob770 P), (nat_lit 771, ob771 P), (nat_lit 772, ob772 P), (nat_lit 800, ob800 P), (nat_lit 801, ob801 P), (nat_lit 807, ob807 P), (nat_lit 808, ob808 P), (nat_lit 829, ob829 P), (nat_lit 830, ob830 P), (nat_lit 836, ob836 P), (nat_lit 837, ob837 P), (nat_lit 839, ob839 P), (nat_lit 840, ob840 P), (nat_lit 845, ob845 P), (nat_lit 851, ob851 P), (nat_lit 852, ob852 P), (nat_lit 853, ob853 P), (nat_lit 859, ob859 P), (nat_lit 860, ob860 P), (nat_lit 866, ob866 P), (nat_lit 867, ob867 P), (nat_lit 873, ob873 P), (nat_lit 874, ob874 P), (nat_lit 880, ob880 P), (nat_lit 881, ob881 P), (nat_lit 885, ob885 P), (nat_lit 886, ob886 P), (nat_lit 890, ob890 P), (nat_lit 891, ob891 P)]
noncomputable abbrev KAs : List Nat := [nat_lit 2, nat_lit 3, nat_lit 116, nat_lit 117, nat_lit 130, nat_lit 131, nat_lit 137, nat_lit 138, nat_lit 144, nat_lit 145, nat_lit 151, nat_lit 152, nat_lit 156, nat_lit 157, nat_lit 170, nat_lit 171, nat_lit 197, nat_lit 198, nat_lit 200, nat_lit 201, nat_lit 202, nat_lit 215, nat_lit 216, nat_lit 227, nat_lit 228, nat_lit 457, nat_lit 458, nat_lit 468, nat_lit 474, nat_lit 475, nat_lit 481, nat_lit 482, nat_lit 488, nat_lit 489, nat_lit 644, nat_lit 650, nat_lit 651, nat_lit 704, nat_lit 705, nat_lit 741, nat_lit 742, nat_lit 757, nat_lit 763, nat_lit 764, nat_lit 770, nat_lit 771, nat_lit 772, nat_lit 800, nat_lit 801, nat_lit 807, nat_lit 808, nat_lit 829, nat_lit 830, nat_lit 836, nat_lit 837, nat_lit 839, nat_lit 840, nat_lit 845, nat_lit 851, nat_lit 852, nat_lit 853, nat_lit 859, nat_lit 860, nat_lit 866, nat_lit 867, nat_lit 873, nat_lit 874, nat_lit 880, nat_lit 881, nat_lit 885, nat_lit 886, nat_lit 890, nat_lit 891]
end Mine
end

section
namespace Mine
theorem ln1 {α : Type} {vs : List α} (h : vs.length = 1) : ∃ v, vs = [v] := List.length_eq_one_iff.mp h
theorem ln2 {α : Type} : ∀ {vs : List α}, vs.length = 2 → ∃ v u, vs = [v, u]
  | [v, u], _ => ⟨v, u, rfl⟩
end Mine
end

section
open PySem PySem.W PyProof.Rows
set_option Elab.async false
set_option maxRecDepth 100000
set_option linter.all false
namespace Mine


noncomputable abbrev KF (w : World) : Frag := KFr w.params

noncomputable abbrev LIM : Nat := 1048576

inductive AV where
  | none
  | bool (b : Bool)
  | int (i : Int)
  | str (s : List Nat)
  | val (v : Value)
  | list (xs : List AV)
  | tup (xs : List AV)

noncomputable abbrev mk (l : List Nat) : Str := ⟨l.toArray⟩
noncomputable abbrev lit (x : String) : List Nat := (Str.ofString x).cps.toList

noncomputable abbrev listObj (vs : List Value) (n : Nat) : Obj := { cls := .type "list", data := .seq vs.toArray n }
noncomputable abbrev tupObj (vs : List Value) (n : Nat) : Obj := { cls := .type "tuple", data := .seq vs.toArray n }

mutual
noncomputable def VR (F : Addr → Option Obj) : AV → Value → Prop
  | .none, v => v = .none
  | .bool b, v => v = .bool b
  | .int i, v => ∃ t, v = .int i t
  | .str s, v => (∃ t, v = .str (mk s) t) ∧ s.length ≤ LIM
  | .val x, v => v = x
  | .list xs, v => ∃ a vs n, v = .ref a ∧ F a = some (listObj vs n) ∧ VRs F xs vs ∧ xs.length ≤ LIM
  | .tup xs, v => ∃ a vs n, v = .ref a ∧ F a = some (tupObj vs n) ∧ VRs F xs vs ∧ xs.length ≤ LIM
noncomputable def VRs (F : Addr → Option Obj) : List AV → List Value → Prop
  | [], vs => vs = []
  | x :: xs, vs => ∃ v r, vs = v :: r ∧ VR F x v ∧ VRs F xs r
end

section
variable {F F' : Addr → Option Obj} (hF : ∀ a o, F a = some o → F' a = some o)
include hF
mutual
theorem VR.mono : ∀ (av : AV) (v : Value), VR F av v → VR F' av v
  | .none, v, h => by unfold VR at h ⊢; exact h
  | .bool _, v, h => by unfold VR at h ⊢; exact h
  | .int _, v, h => by unfold VR at h ⊢; exact h
  | .str _, v, h => by unfold VR at h ⊢; exact h
  | .val _, v, h => by unfold VR at h ⊢; exact h
  | .list xs, v, h => by unfold VR at h ⊢; obtain ⟨a, vs, n, e, f, r, l⟩ := h; exact ⟨a, vs, n, e, hF _ _ f, VRs.mono xs vs r, l⟩
  | .tup xs, v, h => by unfold VR at h ⊢; obtain ⟨a, vs, n, e, f, r, l⟩ := h; exact ⟨a, vs, n, e, hF _ _ f, VRs.mono xs vs r, l⟩
theorem VRs.mono : ∀ (xs : List AV) (vs : List Value), VRs F xs vs → VRs F' xs vs
  | [], vs, h => by unfold VRs at h ⊢; exact h
  | x :: xs, vs, h => by unfold VRs at h ⊢; obtain ⟨v, r, e, p, q⟩ := h; exact ⟨v, r, e, VR.mono x v p, VRs.mono xs r q⟩
end
end

theorem VRs.length {F : Addr → Option Obj} : ∀ {xs : List AV} {vs : List Value}, VRs F xs vs → vs.length = xs.length
  | [], _, h => by unfold VRs at h; subst h; rfl
  | _ :: _, _, h => by unfold VRs at h; obtain ⟨v, r, rfl, _, q⟩ := h; simp [q.length]
theorem VRs.get {F : Addr → Option Obj} : ∀ {xs : List AV} {vs : List Value}, VRs F xs vs → ∀ {i : Nat} {x : AV}, xs[i]? = some x → ∃ v, vs[i]? = some v ∧ VR F x v
  | [], _, _, i, x, e => by simp at e
  | y :: ys, _, h, i, x, e => by
    unfold VRs at h
    obtain ⟨v, r, rfl, p, q⟩ := h
    cases i with
    | zero => simp at e; subst e; exact ⟨v, rfl, p⟩
    | succ i => simp at e; obtain ⟨u, hu, hv⟩ := q.get e; exact ⟨u, by simpa using hu, hv⟩
theorem VRs.append {F : Addr → Option Obj} : ∀ {xs ys : List AV} {vs us : List Value}, VRs F xs vs → VRs F ys us → VRs F (xs ++ ys) (vs ++ us)
  | [], _, _, _, h, k => by unfold VRs at h; subst h; exact k
  | x :: xs, _, _, _, h, k => by
    unfold VRs at h
    obtain ⟨v, r, rfl, p, q⟩ := h
    show VRs F (x :: (xs ++ _)) (v :: (r ++ _))
    unfold VRs
    exact ⟨v, _, rfl, p, q.append k⟩
theorem VRs.take {F : Addr → Option Obj} : ∀ {xs : List AV} {vs : List Value} (n : Nat), VRs F xs vs → VRs F (xs.take n) (vs.take n)
  | _, _, 0, _ => by simp [VRs]
  | [], _, n + 1, h => by unfold VRs at h; subst h; simp [VRs]
  | x :: xs, _, n + 1, h => by
    unfold VRs at h
    obtain ⟨v, r, rfl, p, q⟩ := h
    simp only [List.take_succ_cons]
    unfold VRs
    exact ⟨v, _, rfl, p, q.take n⟩
theorem VRs.drop {F : Addr → Option Obj} : ∀ {xs : List AV} {vs : List Value} (n : Nat), VRs F xs vs → VRs F (xs.drop n) (vs.drop n)
  | _, _, 0, h => by simpa using h
  | [], _, n + 1, h => by unfold VRs at h; subst h; simp [VRs]
  | x :: xs, _, n + 1, h => by
    unfold VRs at h
    obtain ⟨v, r, rfl, p, q⟩ := h
    simpa using q.drop n
theorem VRs.nil {F : Addr → Option Obj} : VRs F [] [] := by unfold VRs; rfl
theorem VRs.cons {F : Addr → Option Obj} {x : AV} {xs : List AV} {v : Value} {vs : List Value} (h : VR F x v) (k : VRs F xs vs) : VRs F (x :: xs) (v :: vs) := by
  unfold VRs; exact ⟨v, vs, rfl, h, k⟩

noncomputable def fz (ex : List Addr) (h : Heap) : Addr → Option Obj := fun a => if a ∈ ex then Option.none else h.get? a
theorem fz_get {ex : List Addr} {h : Heap} {a : Addr} {o : Obj} (e : fz ex h a = some o) : h.get? a = some o := by
  unfold fz at e; split at e
  · cases e
  · exact e
theorem fz_not {ex : List Addr} {h : Heap} {a : Addr} {o : Obj} (e : fz ex h a = some o) : a ∉ ex := by
  unfold fz at e; split at e
  · cases e
  · assumption
theorem fz_of {ex : List Addr} {h : Heap} {a : Addr} {o : Obj} (n : a ∉ ex) (e : h.get? a = some o) : fz ex h a = some o := by
  unfold fz; rw [if_neg n]; exact e

noncomputable def Grow (h h' : Heap) : Prop := ∀ b o, h.get? b = some o → h'.get? b = some o
theorem Grow.refl (h : Heap) : Grow h h := fun _ _ e => e
theorem Grow.trans {a b c : Heap} (x : Grow a b) (y : Grow b c) : Grow a c := fun p o e => y p o (x p o e)
theorem Grow.push (h : Heap) (o : Obj) : Grow h (h.push o) := fun _ _ e => Heap.get?_push_of_some _ e
theorem Grow.fz {h h' : Heap} (g : Grow h h') (ex : List Addr) : ∀ a o, fz ex h a = some o → fz ex h' a = some o := fun _ _ e => fz_of (fz_not e) (g _ _ (fz_get e))
theorem VR.grow {h h' : Heap} {ex : List Addr} {av : AV} {v : Value} (x : VR (fz ex h) av v) (g : Grow h h') : VR (fz ex h') av v := VR.mono (g.fz ex) _ _ x
theorem VRs.grow {h h' : Heap} {ex : List Addr} {av : List AV} {v : List Value} (x : VRs (fz ex h) av v) (g : Grow h h') : VRs (fz ex h') av v := VRs.mono (g.fz ex) _ _ x
theorem VR.fewer {h : Heap} {ex ex' : List Addr} {av : AV} {v : Value} (x : VR (fz ex h) av v) (s : ∀ a ∈ ex', a ∈ ex) : VR (fz ex' h) av v :=
  VR.mono (fun _ _ e => fz_of (fun q => fz_not e (s _ q)) (fz_get e)) _ _ x
theorem VRs.fewer {h : Heap} {ex ex' : List Addr} {av : List AV} {v : List Value} (x : VRs (fz ex h) av v) (s : ∀ a ∈ ex', a ∈ ex) : VRs (fz ex' h) av v :=
  VRs.mono (fun _ _ e => fz_of (fun q => fz_not e (s _ q)) (fz_get e)) _ _ x
theorem VR.more {h h' : Heap} {ex : List Addr} {b : Addr} {av : AV} {v : Value} (x : VR (fz ex h) av v) (n : h.get? b = Option.none) (g : Grow h h') : VR (fz (b :: ex) h') av v :=
  VR.mono (fun a o e => fz_of (by
    intro q
    rcases List.mem_cons.mp q with rfl | q
    · rw [fz_get e] at n; cases n
    · exact fz_not e q) (g _ _ (fz_get e))) _ _ x
theorem VRs.more {h h' : Heap} {ex : List Addr} {b : Addr} {av : List AV} {v : List Value} (x : VRs (fz ex h) av v) (n : h.get? b = Option.none) (g : Grow h h') : VRs (fz (b :: ex) h') av v :=
  VRs.mono (fun a o e => fz_of (by
    intro q
    rcases List.mem_cons.mp q with rfl | q
    · rw [fz_get e] at n; cases n
    · exact fz_not e q) (g _ _ (fz_get e))) _ _ x

theorem get?_size_none (h : Heap) : h.get? h.objs.size = Option.none := by
  cases e : h.get? h.objs.size with
  | none => rfl
  | some o => exact absurd (Heap.lt_size e) (Nat.lt_irrefl _)

structure Base (w : World) (h : Heap) : Prop where
  kin : (KF w).In h
  top : ∃ p loose mean mg mb, Top p loose mean mg mb h
  seer : h.NoSeer
theorem Base.grow {w : World} {h h' : Heap} (b : Base w h) (g : Grow h h') : Base w h' := ⟨b.kin.keeps g, let ⟨p, l, m, mg, mb, T⟩ := b.top; ⟨p, l, m, mg, mb, T.keeps g⟩, b.seer.keeps g⟩

noncomputable def Frames (A : Around) : Prop := ∃ env l, A.frames = some (env :: l) ∧ env.scope.isGenerator = false ∧ env.scope.isCoroutine = false ∧ env.builtins = builtinsNs ∧ env.globals = mainGlobals
noncomputable def Room (d : Nat) (A : Around) : Prop := (A.depth + d + 120 < recursionLimit ∧ Frames A) ∧ A.units + 10 * d + 100 < cLine ∧ A.handled = Option.none

structure Fc where
  h₀ : Heap
  env : Env
  ex0 : List Addr
  d : Nat

inductive MO where
  | list (xs : List AV)
  | dict (fs : List (Str × AV))
  | cell (v : Option AV)

noncomputable abbrev Mu := List (Addr × MO)
noncomputable abbrev Rho := List (Str × AV)
noncomputable def own (C : Fc) (μ : Mu) : List Addr := C.env.locals :: μ.map (·.1)
noncomputable def exs (C : Fc) (μ : Mu) : List Addr := own C μ ++ C.ex0

noncomputable def MRel (F : Addr → Option Obj) (h : Heap) (a : Addr) : MO → Prop
  | .list xs => ∃ vs n, h.get? a = some (listObj vs n) ∧ VRs F xs vs ∧ xs.length ≤ LIM
  | .dict fs => ∃ m, h.Ns1 a m ∧ (∀ x av, fs.lookup x = some av → ∃ v, m x = some v ∧ VR F av v) ∧ (∀ x, fs.lookup x = Option.none → m x = Option.none)
  | .cell v => ∃ o, h.get? a = some o ∧ (match v with | Option.none => o.data = .cell Option.none | some av => ∃ u, o.data = .cell (some u) ∧ VR F av u)

noncomputable def ORel (F : Addr → Option Obj) (m : Str → Option Value) (ρ : Rho) : Prop := ∀ x av, ρ.lookup x = some av → ∃ v, m x = some v ∧ VR F av v

structure FcOk (w : World) (C : Fc) : Prop where
  base : Base w C.h₀
  kind : C.env.scope.kind = .function
  glob : C.env.globals = mainGlobals
  blt : C.env.builtins = builtinsNs

structure Rel (w : World) (C : Fc) (ρ : Rho) (μ : Mu) (h : Heap) : Prop where
  ok : FcOk w C
  keep : Grow C.h₀ h
  ns : ∃ m, h.Ns C.env.locals m ∧ ORel (fz (exs C μ) h) m ρ
  mus : ∀ p ∈ μ, MRel (fz (exs C μ) h) h p.1 p.2
  new : ∀ a ∈ own C μ, C.h₀.get? a = Option.none
  nd : (own C μ).Nodup
  dj : ∀ a ∈ own C μ, a ∉ C.ex0
  alive : ∀ a ∈ exs C μ, ∃ o, h.get? a = some o


theorem MRel.grow {ex : List Addr} {h h' : Heap} {a : Addr} {mo : MO} (x : MRel (fz ex h) h a mo) (g : Grow h h') : MRel (fz ex h') h' a mo := by
  cases mo with
  | list xs => obtain ⟨vs, n, e, r, l⟩ := x; exact ⟨vs, n, g _ _ e, r.grow g, l⟩
  | dict fs => obtain ⟨m, e, r, q⟩ := x; exact ⟨m, e.keeps g, fun y av hy => let ⟨v, hv, k⟩ := r y av hy; ⟨v, hv, k.grow g⟩, q⟩
  | cell v => cases v with
    | none => obtain ⟨o, e, r⟩ := x; exact ⟨o, g _ _ e, r⟩
    | some av => obtain ⟨o, e, u, r, k⟩ := x; exact ⟨o, g _ _ e, u, r, k.grow g⟩
theorem ORel.grow {ex : List Addr} {h h' : Heap} {m : Str → Option Value} {ρ : Rho} (x : ORel (fz ex h) m ρ) (g : Grow h h') : ORel (fz ex h') m ρ :=
  fun y av hy => let ⟨v, hv, k⟩ := x y av hy; ⟨v, hv, k.grow g⟩

theorem Rel.grow {w : World} {C : Fc} {ρ : Rho} {μ : Mu} {h h' : Heap} (x : Rel w C ρ μ h) (g : Grow h h') : Rel w C ρ μ h' where
  ok := x.ok
  keep := x.keep.trans g
  ns := let ⟨m, hn, r⟩ := x.ns; ⟨m, hn.keeps g, r.grow g⟩
  mus := fun p hp => (x.mus p hp).grow g
  new := x.new
  nd := x.nd
  dj := x.dj
  alive := fun a ha => let ⟨o, e⟩ := x.alive a ha; ⟨o, g _ _ e⟩

section
variable (w : World) (C : Fc) (ρ : Rho) (μ : Mu)

noncomputable def TTo (t : Sem Value) (av : AV) : Prop :=
  ∀ (A : Around) (s : Shared) (Q E : Value → Shared → Prop), Room C.d A → 1 ≤ s.toks → Rel w C ρ μ s.heap →
    (∀ v h' tk, 1 ≤ tk → Grow s.heap h' → VR (fz (exs C μ) h') av v → Q v { s with heap := h', toks := tk }) → wpAny (model PR w) A t Q E s
noncomputable def EvTo (e : PySem.Expr) (av : AV) : Prop := TTo w C ρ μ (eval e C.env) av
noncomputable def BTo (t : Sem Bool) (b : Bool) : Prop :=
  ∀ (A : Around) (s : Shared) (Q : Bool → Shared → Prop) (E : Value → Shared → Prop), Room C.d A → 1 ≤ s.toks → Rel w C ρ μ s.heap →
    (∀ h' tk, 1 ≤ tk → Grow s.heap h' → Q b { s with heap := h', toks := tk }) → wpAny (model PR w) A t Q E s
noncomputable def TrTo (e : PySem.Expr) (b : Bool) : Prop := BTo w C ρ μ (isTrue e C.env (eval e C.env)) b

inductive Out where
  | next (ρ : Rho) (μ : Mu)
  | brk (ρ : Rho) (μ : Mu)
  | cont (ρ : Rho) (μ : Mu)
  | ret (av : AV) (ρ : Rho) (μ : Mu)

noncomputable def FRel (fl : Flow) (o : Out) (h : Heap) : Prop := match o with
  | .next ρ' μ' => fl = .next ∧ Rel w C ρ' μ' h
  | .brk ρ' μ' => fl = .brk ∧ Rel w C ρ' μ' h
  | .cont ρ' μ' => fl = .cont ∧ Rel w C ρ' μ' h
  | .ret av ρ' μ' => ∃ v, fl = .ret v ∧ Rel w C ρ' μ' h ∧ VR (fz (exs C μ') h) av v

noncomputable def STo (t : Sem Flow) (P : Out → Prop) : Prop :=
  ∀ (A : Around) (s : Shared) (Q : Flow → Shared → Prop) (E : Value → Shared → Prop), Room C.d A → 1 ≤ s.toks → Rel w C ρ μ s.heap →
    (∀ fl o h' tk, 1 ≤ tk → P o → FRel w C fl o h' → Q fl { s with heap := h', toks := tk }) → wpAny (model PR w) A t Q E s
noncomputable def ExTo (ss : List Stmt) (P : Out → Prop) : Prop := STo w C ρ μ (execs ss C.env) P
noncomputable def X1To (st : Stmt) (P : Out → Prop) : Prop := STo w C ρ μ (exec st C.env) P
end

noncomputable def CallsTo (w : World) (d : Nat) (f : Value) (args : List AV) (r : AV) : Prop :=
  ∀ (A : Around) (s : Shared) (ex : List Addr) (vs : List Value) (Q E : Value → Shared → Prop), Room d A → 1 ≤ s.toks → Base w s.heap → (∀ a ∈ ex, ∃ o, s.heap.get? a = some o) →
    VRs (fz ex s.heap) args vs → (∀ v h' tk, 1 ≤ tk → Grow s.heap h' → VR (fz ex h') r v → Q v { s with heap := h', toks := tk }) → wpAny (model PR w) A (call f vs) Q E s

section
variable {w : World} {C : Fc} {ρ : Rho} {μ : Mu} {A : Around} {s : Shared}

theorem tok1 {α : Type} {t : Sem α} {Q : α → Shared → Prop} {E : Value → Shared → Prop} (h1 : 1 ≤ s.toks) (h : wpAny (model PR w) A t (fun a s' => 1 ≤ s'.toks → Q a s') (fun e s' => 1 ≤ s'.toks → E e s') s) : wpAny (model PR w) A t Q E s :=
  wpAny_with_toks h1 h

theorem TTo.leaf {t : Sem Value} {av : AV} (h : ∀ (A : Around) (s : Shared) (Q E : Value → Shared → Prop), Room C.d A → 1 ≤ s.toks → Rel w C ρ μ s.heap →
    (∀ v h' tk, Grow s.heap h' → VR (fz (exs C μ) h') av v → Q v { s with heap := h', toks := tk }) → wpAny (model PR w) A t Q E s) : TTo w C ρ μ t av :=
  fun A s Q E hr h1 R hQ => tok1 h1 (h A s _ _ hr h1 R fun v h' tk g x => fun h1' => hQ v h' tk h1' g x)
theorem BTo.leaf {t : Sem Bool} {b : Bool} (h : ∀ (A : Around) (s : Shared) (Q : Bool → Shared → Prop) (E : Value → Shared → Prop), Room C.d A → 1 ≤ s.toks → Rel w C ρ μ s.heap →
    (∀ h' tk, Grow s.heap h' → Q b { s with heap := h', toks := tk }) → wpAny (model PR w) A t Q E s) : BTo w C ρ μ t b :=
  fun A s Q E hr h1 R hQ => tok1 h1 (h A s _ _ hr h1 R fun h' tk g => fun h1' => hQ h' tk h1' g)

theorem vr_str {F : Addr → Option Obj} {x : List Nat} {v : Value} (h : VR F (.str x) v) : (∃ t, v = .str (mk x) t) ∧ x.length ≤ LIM := by unfold VR at h; exact h
theorem vr_int {F : Addr → Option Obj} {x : Int} {v : Value} (h : VR F (.int x) v) : ∃ t, v = .int x t := by unfold VR at h; exact h
theorem vr_bool {F : Addr → Option Obj} {x : Bool} {v : Value} (h : VR F (.bool x) v) : v = .bool x := by unfold VR at h; exact h
theorem vr_none {F : Addr → Option Obj} {v : Value} (h : VR F .none v) : v = .none := by unfold VR at h; exact h
theorem vr_val {F : Addr → Option Obj} {x v : Value} (h : VR F (.val x) v) : v = x := by unfold VR at h; exact h
theorem vr_list {F : Addr → Option Obj} {xs : List AV} {v : Value} (h : VR F (.list xs) v) : ∃ a vs n, v = .ref a ∧ F a = some (listObj vs n) ∧ VRs F xs vs ∧ xs.length ≤ LIM := by unfold VR at h; exact h
theorem vr_tup {F : Addr → Option Obj} {xs : List AV} {v : Value} (h : VR F (.tup xs) v) : ∃ a vs n, v = .ref a ∧ F a = some (tupObj vs n) ∧ VRs F xs vs ∧ xs.length ≤ LIM := by unfold VR at h; exact h
theorem vr_str' {F : Addr → Option Obj} {x : List Nat} {t : Tok} (h : x.length ≤ LIM) : VR F (.str x) (.str (mk x) t) := by unfold VR; exact ⟨⟨t, rfl⟩, h⟩
theorem vr_int' {F : Addr → Option Obj} {x : Int} {t : Tok} : VR F (.int x) (.int x t) := by unfold VR; exact ⟨t, rfl⟩
theorem vr_bool' {F : Addr → Option Obj} {x : Bool} : VR F (.bool x) (.bool x) := by unfold VR; rfl
theorem vr_none' {F : Addr → Option Obj} : VR F .none .none := by unfold VR; rfl
theorem vr_val' {F : Addr → Option Obj} {x : Value} : VR F (.val x) x := by unfold VR; rfl
theorem vr_list' {F : Addr → Option Obj} {xs : List AV} {a : Addr} {vs : List Value} {n : Nat} (e : F a = some (listObj vs n)) (h : VRs F xs vs) (l : xs.length ≤ LIM) : VR F (.list xs) (.ref a) := by unfold VR; exact ⟨a, vs, n, rfl, e, h, l⟩
theorem vr_tup' {F : Addr → Option Obj} {xs : List AV} {a : Addr} {vs : List Value} {n : Nat} (e : F a = some (tupObj vs n)) (h : VRs F xs vs) (l : xs.length ≤ LIM) : VR F (.tup xs) (.ref a) := by unfold VR; exact ⟨a, vs, n, rfl, e, h, l⟩

-- constants
theorem vr_strc {F : Addr → Option Obj} {x : Str} {t : Tok} (h : x.cps.toList.length ≤ LIM) : VR F (.str x.cps.toList) (.str x t) := by
  unfold VR; exact ⟨⟨t, by cases x; rfl⟩, h⟩
theorem mk_cps (x : Str) : mk x.cps.toList = x := by cases x; rfl
theorem EvTo.cstr {x : Str} {k : Nat} {p : Pos} (h : x.cps.toList.length ≤ LIM := by decide) : EvTo w C ρ μ (.Constant (.str x) k p) (.str x.cps.toList) :=
  TTo.leaf fun _ _ _ _ _ _ _ hQ => wpAny_Constant_str (hQ _ _ _ (Grow.refl _) (vr_strc h))
theorem EvTo.cint {x : Int} {k : Nat} {p : Pos} : EvTo w C ρ μ (.Constant (.int x) k p) (.int x) :=
  TTo.leaf fun _ _ _ _ _ _ _ hQ => wpAny_Constant_int (hQ _ _ _ (Grow.refl _) vr_int')
theorem EvTo.cbool {x : Bool} {k : Nat} {p : Pos} : EvTo w C ρ μ (.Constant (.bool x) k p) (.bool x) :=
  TTo.leaf fun _ s _ _ _ _ _ hQ => wpAny_Constant_bool (hQ _ _ s.toks (Grow.refl _) vr_bool')
theorem EvTo.cnone {k : Nat} {p : Pos} : EvTo w C ρ μ (.Constant .none k p) .none :=
  TTo.leaf fun _ s _ _ _ _ _ hQ => wpAny_Constant_none (hQ _ _ s.toks (Grow.refl _) vr_none')

-- names
theorem EvTo.name {x : Str} {p : Pos} {av : AV} (hl : ρ.lookup x = some av) (hk : C.env.kindOf x = some .local := by rfl) (hd : (x == ("__debug__" : Str)) = false := by decide) : EvTo w C ρ μ (.Name x p) av :=
  TTo.leaf fun _ s _ _ _ _ R hQ => by
    obtain ⟨m, hn, r⟩ := R.ns
    obtain ⟨v, hv, k⟩ := r x av hl
    exact wpAny_Name (wpAny_loadName_local R.ok.kind hk hn hv (hQ v s.heap s.toks (Grow.refl _) k)) hd
theorem EvTo.glob {x : Str} {p : Pos} {v : Value} (e : nsIn (KF w) mainGlobals x = some (some v)) (hx : C.env.kindOf x = some .globalImplicit := by rfl) (hd : (x == ("__debug__" : Str)) = false := by decide) :
    EvTo w C ρ μ (.Name x p) (.val v) :=
  TTo.leaf fun _ s _ _ _ _ R hQ => by
    obtain ⟨_, _, _, mg, mb, T⟩ := R.ok.base.top
    refine Calls.Name_function_global R.ok.kind hx (Calls.loadGlobal_global (mg := mg) (by rw [R.ok.glob]; exact T.g.keeps R.keep) (mg_of R.ok.base.kin T.g e) ?_) hd
    exact hQ v s.heap s.toks (Grow.refl _) vr_val'
theorem EvTo.blt {x : Str} {p : Pos} {v : Value} (e : nsIn (KF w) mainGlobals x = some Option.none) (hv : bootBuiltins x = some v) (hx : C.env.kindOf x = some .globalImplicit := by rfl) (hn : x ≠ "__name__" := by decide) (hd : (x == ("__debug__" : Str)) = false := by decide) :
    EvTo w C ρ μ (.Name x p) (.val v) :=
  TTo.leaf fun _ s _ _ _ _ R hQ => by
    obtain ⟨_, _, _, mg, mb, T⟩ := R.ok.base.top
    refine Calls.Name_function_global R.ok.kind hx (Calls.loadGlobal_builtin (mg := mg) (mb := mb) (by rw [R.ok.glob]; exact T.g.keeps R.keep) (mg_none_of R.ok.base.kin T.g e) (by rw [R.ok.blt]; exact T.b.keeps R.keep) ((T.builtins x hn).trans hv) ?_) hd
    exact hQ v s.heap s.toks (Grow.refl _) vr_val'

-- two in a row
noncomputable def Op2 (w : World) (C : Fc) (ρ : Rho) (μ : Mu) (op : Value → Value → Sem Value) (a b r : AV) : Prop :=
  ∀ (A : Around) (s : Shared) (Q E : Value → Shared → Prop) (u v : Value), Room C.d A → 1 ≤ s.toks → Rel w C ρ μ s.heap → VR (fz (exs C μ) s.heap) a u → VR (fz (exs C μ) s.heap) b v →
    (∀ v h' tk, Grow s.heap h' → VR (fz (exs C μ) h') r v → Q v { s with heap := h', toks := tk }) → wpAny (model PR w) A (op u v) Q E s
noncomputable def Op1 (w : World) (C : Fc) (ρ : Rho) (μ : Mu) (op : Value → Sem Value) (a r : AV) : Prop :=
  ∀ (A : Around) (s : Shared) (Q E : Value → Shared → Prop) (u : Value), Room C.d A → 1 ≤ s.toks → Rel w C ρ μ s.heap → VR (fz (exs C μ) s.heap) a u →
    (∀ v h' tk, Grow s.heap h' → VR (fz (exs C μ) h') r v → Q v { s with heap := h', toks := tk }) → wpAny (model PR w) A (op u) Q E s
noncomputable def OpB (w : World) (C : Fc) (ρ : Rho) (μ : Mu) (op : Value → Sem Bool) (a : AV) (b : Bool) : Prop :=
  ∀ (A : Around) (s : Shared) (Q : Bool → Shared → Prop) (E : Value → Shared → Prop) (u : Value), Room C.d A → 1 ≤ s.toks → Rel w C ρ μ s.heap → VR (fz (exs C μ) s.heap) a u →
    (∀ h' tk, Grow s.heap h' → Q b { s with heap := h', toks := tk }) → wpAny (model PR w) A (op u) Q E s

theorem EvTo.binop {l r : PySem.Expr} {op : Operator} {p : Pos} {a b c : AV} (hl : EvTo w C ρ μ l a) (hr : EvTo w C ρ μ r b) (ho : Op2 w C ρ μ (binaryOp op) a b c) : EvTo w C ρ μ (.BinOp l op r p) c :=
  fun A s Q E hR h1 R hQ => wpAny_BinOp (hl A s _ _ hR h1 R fun v h' tk h1' g x => hr A _ _ _ hR h1' (R.grow g) fun v' h'' tk' h1'' g' x' =>
    tok1 h1'' (ho A _ _ _ v v' hR h1'' ((R.grow g).grow g') (x.grow g') x' fun v3 h3 tk3 g3 x3 => fun h13 => hQ v3 h3 tk3 h13 ((g.trans g').trans g3) x3))
theorem EvTo.cmp {l r : PySem.Expr} {op : CmpOp} {p : Pos} {a b c : AV} (hl : EvTo w C ρ μ l a) (hr : EvTo w C ρ μ r b) (ho : Op2 w C ρ μ (compareOp op) a b c) (hm : behindInMarks op r = false := by with_unfolding_all rfl) : EvTo w C ρ μ (.Compare l [op] [r] p) c :=
  fun A s Q E hR h1 R hQ => wpAny_Compare1 (hl A s _ _ hR h1 R fun v h' tk h1' g x => hr A _ _ _ hR h1' (R.grow g) fun v' h'' tk' h1'' g' x' =>
    tok1 h1'' (ho A _ _ _ v v' hR h1'' ((R.grow g).grow g') (x.grow g') x' fun v3 h3 tk3 g3 x3 => fun h13 => hQ v3 h3 tk3 h13 ((g.trans g').trans g3) x3)) hm
theorem TrTo.cmp {l r : PySem.Expr} {op : CmpOp} {p : Pos} {a b : AV} {c : Bool} (hl : EvTo w C ρ μ l a) (hr : EvTo w C ρ μ r b) (ho : Op2 w C ρ μ (compareOp op) a b (.bool c)) (hm : behindInMarks op r = false := by with_unfolding_all rfl) : TrTo w C ρ μ (.Compare l [op] [r] p) c :=
  fun A s Q E hR h1 R hQ => wpAny_isTrue_Compare1 (hl A s _ _ hR h1 R fun v h' tk h1' g x => hr A _ _ _ hR h1' (R.grow g) fun v' h'' tk' h1'' g' x' =>
    tok1 h1'' (ho A _ _ _ v v' hR h1'' ((R.grow g).grow g') (x.grow g') x' fun v3 h3 tk3 g3 x3 => fun h13 => by
      rw [vr_bool x3]; exact wpAny_truthy_bool (hQ h3 tk3 h13 ((g.trans g').trans g3)))) hm
theorem TrTo.value {e : PySem.Expr} {a : AV} {b : Bool} (h : EvTo w C ρ μ e a) (ho : OpB w C ρ μ truthy a b) (he : isTrue e C.env (eval e C.env) = (do let v ← eval e C.env; standAt e.pos; holding [v] (truthy v)) := by rfl) : TrTo w C ρ μ e b :=
  fun A s Q E hR h1 R hQ => wpAny_isTrue_value (h A s _ _ hR h1 R fun v h' tk h1' g x => tok1 h1' (ho A _ _ _ v hR h1' (R.grow g) x fun h3 tk3 g3 => fun h13 => hQ h3 tk3 h13 (g.trans g3))) he
theorem TrTo.not {e : PySem.Expr} {p : Pos} {b : Bool} (h : TrTo w C ρ μ e b) : TrTo w C ρ μ (.UnaryOp .Not e p) (!b) :=
  fun A s Q E hR h1 R hQ => wpAny_isTrue_Not (h A s _ _ hR h1 R fun h' tk h1' g => hQ h' tk h1' g)
noncomputable def ATo (w : World) (C : Fc) (ρ : Rho) (μ : Mu) (op : BoolOp) (es : List PySem.Expr) (b : Bool) : Prop := BTo w C ρ μ (allTrue op es C.env) b
theorem TrTo.boolop {op : BoolOp} {es : List PySem.Expr} {p : Pos} {b : Bool} (h : ATo w C ρ μ op es b) : TrTo w C ρ μ (.BoolOp op es p) b :=
  fun A s Q E hR h1 R hQ => wpAny_isTrue_BoolOp (h A s Q E hR h1 R hQ)
theorem ATo.andNil : ATo w C ρ μ .And [] true := BTo.leaf fun _ s _ _ _ _ _ hQ => wpAny_allTrue_And_nil (hQ _ s.toks (Grow.refl _))
theorem ATo.orNil : ATo w C ρ μ .Or [] false := BTo.leaf fun _ s _ _ _ _ _ hQ => wpAny_allTrue_Or_nil (hQ _ s.toks (Grow.refl _))
theorem ATo.and {e : PySem.Expr} {es : List PySem.Expr} {a b : Bool} (h : TrTo w C ρ μ e a) (k : a = true → ATo w C ρ μ .And es b) : ATo w C ρ μ .And (e :: es) (a && b) :=
  fun A s Q E hR h1 R hQ => wpAny_allTrue_And_cons (h A s _ _ hR h1 R fun h' tk h1' g => by
    cases a with
    | false => exact hQ h' tk h1' g
    | true => exact k rfl A _ _ _ hR h1' (R.grow g) fun h'' tk' h1'' g' => hQ h'' tk' h1'' (g.trans g'))
theorem ATo.or {e : PySem.Expr} {es : List PySem.Expr} {a b : Bool} (h : TrTo w C ρ μ e a) (k : a = false → ATo w C ρ μ .Or es b) : ATo w C ρ μ .Or (e :: es) (a || b) :=
  fun A s Q E hR h1 R hQ => wpAny_allTrue_Or_cons (h A s _ _ hR h1 R fun h' tk h1' g => by
    cases a with
    | true => exact hQ h' tk h1' g
    | false => exact k rfl A _ _ _ hR h1' (R.grow g) fun h'' tk' h1'' g' => hQ h'' tk' h1'' (g.trans g'))
theorem EvTo.ifexp {t a b : PySem.Expr} {p : Pos} {c : Bool} {av : AV} (h : TrTo w C ρ μ t c) (ha : c = true → EvTo w C ρ μ a av) (hb : c = false → EvTo w C ρ μ b av) : EvTo w C ρ μ (.IfExp t a b p) av :=
  fun A s Q E hR h1 R hQ => wpAny_IfExp (h A s _ _ hR h1 R fun h' tk h1' g => by
    cases c with
    | true => exact ha rfl A _ _ _ hR h1' (R.grow g) fun v h'' tk' h1'' g' x => hQ v h'' tk' h1'' (g.trans g') x
    | false => exact hb rfl A _ _ _ hR h1' (R.grow g) fun v h'' tk' h1'' g' x => hQ v h'' tk' h1'' (g.trans g') x)
end
end Mine
end

section
open PySem PySem.W PyProof.Rows
set_option Elab.async false
set_option maxRecDepth 100000
set_option linter.all false
namespace Mine
section
variable {w : World} {C : Fc} {ρ : Rho} {μ : Mu}

theorem mk_len (l : List Nat) : (mk l).length = l.length := by simp [Str.length]
theorem mk_append (a b : List Nat) : mk a ++ mk b = mk (a ++ b) := by
  show Str.append _ _ = _
  simp [Str.append]
theorem lim_size {n : Nat} (h : n ≤ LIM) : n ≤ sizeLine := by unfold sizeLine; unfold LIM at h; (first | lia | omega)

-- texts
theorem op_adds {x y : List Nat} (h : x.length + y.length ≤ LIM) : Op2 w C ρ μ (binaryOp .Add) (.str x) (.str y) (.str (x ++ y)) :=
  fun A s Q E u v _ _ _ hu hv hQ => by
    obtain ⟨⟨t, rfl⟩, _⟩ := vr_str hu
    obtain ⟨⟨t', rfl⟩, _⟩ := vr_str hv
    refine SB.add (fun t' k => ?_) (by rw [mk_len, mk_len]; exact lim_size h)
    rw [mk_append]
    exact hQ _ s.heap k (Grow.refl _) (vr_str' (by simp; (first | lia | omega)))
theorem op_iadds {x y : List Nat} (h : x.length + y.length ≤ LIM) : Op2 w C ρ μ (inplaceOp .Add) (.str x) (.str y) (.str (x ++ y)) :=
  fun A s Q E u v _ _ _ hu hv hQ => by
    obtain ⟨⟨t, rfl⟩, _⟩ := vr_str hu
    obtain ⟨⟨t', rfl⟩, _⟩ := vr_str hv
    refine SB.iadd (fun t' k => ?_) (by rw [mk_len, mk_len]; exact lim_size h)
    rw [mk_append]
    exact hQ _ s.heap k (Grow.refl _) (vr_str' (by simp; (first | lia | omega)))
theorem op_eqs {x y : List Nat} : Op2 w C ρ μ (compareOp .Eq) (.str x) (.str y) (.bool (x == y)) :=
  fun A s Q E u v _ _ _ hu hv hQ => by
    obtain ⟨⟨t, rfl⟩, _⟩ := vr_str hu
    obtain ⟨⟨t', rfl⟩, _⟩ := vr_str hv
    exact P.eq_str (hQ _ s.heap s.toks (Grow.refl _) vr_bool')
theorem op_nes {x y : List Nat} : Op2 w C ρ μ (compareOp .NotEq) (.str x) (.str y) (.bool (x != y)) :=
  fun A s Q E u v _ _ _ hu hv hQ => by
    obtain ⟨⟨t, rfl⟩, _⟩ := vr_str hu
    obtain ⟨⟨t', rfl⟩, _⟩ := vr_str hv
    exact P.ne_str (hQ _ s.heap s.toks (Grow.refl _) vr_bool')
theorem op_eqsn {x : List Nat} : Op2 w C ρ μ (compareOp .Eq) (.str x) .none (.bool false) :=
  fun A s Q E u v _ _ _ hu hv hQ => by
    obtain ⟨⟨t, rfl⟩, _⟩ := vr_str hu
    obtain rfl := vr_none hv
    exact EqNone.eq_str_none (hQ _ s.heap s.toks (Grow.refl _) vr_bool')
theorem op_eqnn : Op2 w C ρ μ (compareOp .Eq) .none .none (.bool true) :=
  fun A s Q E u v _ _ _ hu hv hQ => by
    obtain rfl := vr_none hu
    obtain rfl := vr_none hv
    exact EqNone.eq_none_none (hQ _ s.heap s.toks (Grow.refl _) vr_bool')
theorem op_ins {c : Nat} {y : List Nat} : Op2 w C ρ μ (compareOp .In) (.str [c]) (.str y) (.bool (decide (c ∈ y))) :=
  fun A s Q E u v _ _ _ hu hv hQ => by
    obtain ⟨⟨t, rfl⟩, _⟩ := vr_str hu
    obtain ⟨⟨t', rfl⟩, _⟩ := vr_str hv
    refine SB.contains ?_
    have e : Txt.contains (mk y) (mk [c]) = decide (c ∈ y) := by unfold Txt.contains; exact StrLaws.found_one (mk y) c
    rw [e]
    exact hQ _ s.heap s.toks (Grow.refl _) vr_bool'
theorem op_nins {c : Nat} {y : List Nat} : Op2 w C ρ μ (compareOp .NotIn) (.str [c]) (.str y) (.bool (!decide (c ∈ y))) :=
  fun A s Q E u v _ _ _ hu hv hQ => by
    obtain ⟨⟨t, rfl⟩, _⟩ := vr_str hu
    obtain ⟨⟨t', rfl⟩, _⟩ := vr_str hv
    refine SB.notContains ?_
    have e : Txt.contains (mk y) (mk [c]) = decide (c ∈ y) := by unfold Txt.contains; exact StrLaws.found_one (mk y) c
    rw [e]
    exact hQ _ s.heap s.toks (Grow.refl _) vr_bool'
theorem op_truths {x : List Nat} : OpB w C ρ μ truthy (.str x) (!x.isEmpty) :=
  fun A s Q E u _ _ _ hu hQ => by
    obtain ⟨⟨t, rfl⟩, hl⟩ := vr_str hu
    refine P.truthy_str (by rw [mk_len]; unfold LIM at hl; (first | lia | omega)) ?_
    have e : (((mk x).length : Int) != 0) = (!x.isEmpty) := by
      rw [mk_len]
      cases x with
      | nil => rfl
      | cons a l => simp [bne]; (first | lia | omega)
    rw [e]
    exact hQ s.heap _ (Grow.refl _)
theorem op_truthb {b : Bool} : OpB w C ρ μ truthy (.bool b) b :=
  fun A s Q E u _ _ _ hu hQ => by
    obtain rfl := vr_bool hu
    exact wpAny_truthy_bool (hQ s.heap s.toks (Grow.refl _))
theorem op_truthn : OpB w C ρ μ truthy .none false :=
  fun A s Q E u _ _ _ hu hQ => by
    obtain rfl := vr_none hu
    exact truthy_none (hQ s.heap s.toks (Grow.refl _))

-- ints
theorem op_addi {x y : Int} : Op2 w C ρ μ (binaryOp .Add) (.int x) (.int y) (.int (x + y)) :=
  fun A s Q E u v _ _ _ hu hv hQ => by
    obtain ⟨t, rfl⟩ := vr_int hu
    obtain ⟨t', rfl⟩ := vr_int hv
    exact PyProof.Rows.add_int (hQ _ s.heap _ (Grow.refl _) vr_int')
theorem op_lti {x y : Int} : Op2 w C ρ μ (compareOp .Lt) (.int x) (.int y) (.bool (decide (x < y))) :=
  fun A s Q E u v _ _ _ hu hv hQ => by
    obtain ⟨t, rfl⟩ := vr_int hu
    obtain ⟨t', rfl⟩ := vr_int hv
    exact PyProof.Rows.lt_int (hQ _ s.heap s.toks (Grow.refl _) vr_bool')
end
end Mine
end

section
open PySem PySem.W PyProof.Rows
set_option Elab.async false
set_option maxRecDepth 100000
set_option linter.all false
namespace Mine
noncomputable def put (ρ : Rho) (x : Str) (av : AV) : Rho := (x, av) :: ρ.filter (fun p => !(p.1 == x))
theorem put_lookup (ρ : Rho) (x : Str) (av : AV) (y : Str) : (put ρ x av).lookup y = if y = x then some av else ρ.lookup y := by
  unfold put
  rw [List.lookup_cons]
  by_cases h : y = x
  · subst h; simp
  · have hb : (y == x) = false := beq_eq_false_iff_ne.mpr h
    rw [hb, if_neg h]
    dsimp only
    induction ρ with
    | nil => rfl
    | cons p r ih =>
      obtain ⟨k, v⟩ := p
      rw [List.filter_cons]
      by_cases hk : k = x
      · subst hk
        simp only [beq_self_eq_true, Bool.not_true, Bool.false_eq_true, if_false]
        rw [ih, List.lookup_cons, hb]
      · have hk' : (k == x) = false := beq_eq_false_iff_ne.mpr hk
        simp only [hk', Bool.not_false, if_true]
        rw [List.lookup_cons, List.lookup_cons, ih]

section
variable {w : World} {C : Fc} {ρ : Rho} {μ : Mu} {P : Out → Prop}

theorem fz_same {ex : List Addr} {h h' : Heap} {L : Addr} (hL : L ∈ ex) (hs : Heap.SameBut L h h') : ∀ a o, fz ex h a = some o → fz ex h' a = some o := fun a o e =>
  fz_of (fz_not e) ((hs.2 a (fun q => fz_not e (q ▸ hL))).trans (fz_get e))

theorem Rel.store {h h' : Heap} {x : Str} {av : AV} {v : Value} {m : Str → Option Value} (R : Rel w C ρ μ h) (hv : VR (fz (exs C μ) h) av v)
    (hm : h.Ns C.env.locals m) (hr : ORel (fz (exs C μ) h) m ρ)
    (hn : h'.Ns C.env.locals (fun y => if y = x then some v else m y)) (hs : Heap.SameBut C.env.locals h h') : Rel w C (put ρ x av) μ h' := by
  have hL : C.env.locals ∈ exs C μ := by unfold exs own; simp
  have hF := fz_same hL hs
  have nL : ∀ b o, C.h₀.get? b = some o → b ≠ C.env.locals := fun b o e q => by
    have := R.new C.env.locals (by unfold own; simp)
    rw [q, this] at e; cases e
  refine ⟨R.ok, fun b o e => (hs.2 b (nL b o e)).trans (R.keep b o e), ⟨_, hn, ?_⟩, fun p hp => ?_, R.new, R.nd, R.dj, fun a ha => ?_⟩
  · intro y av' hy
    rw [put_lookup] at hy
    by_cases h : y = x
    · rw [if_pos h] at hy; cases hy; exact ⟨v, by simp [h], VR.mono hF _ _ hv⟩
    · rw [if_neg h] at hy
      obtain ⟨u, hu, k⟩ := hr y av' hy
      exact ⟨u, by simp [h, hu], VR.mono hF _ _ k⟩
  · have np : p.1 ≠ C.env.locals := by
      have := R.nd
      unfold own at this
      rw [List.nodup_cons] at this
      intro q
      exact this.1 (q ▸ List.mem_map_of_mem hp)
    have M := R.mus p hp
    cases hmo : p.2 with
    | list xs => rw [hmo] at M; obtain ⟨vs, n, e, r, l⟩ := M; exact ⟨vs, n, (hs.2 _ np).trans e, VRs.mono hF _ _ r, l⟩
    | dict fs => rw [hmo] at M; obtain ⟨m', e, r, q⟩ := M; exact ⟨m', e.sameBut hs np, fun y av hy => let ⟨v, hv, k⟩ := r y av hy; ⟨v, hv, VR.mono hF _ _ k⟩, q⟩
    | cell cv => rw [hmo] at M; cases cv with
      | none => obtain ⟨o, e, r⟩ := M; exact ⟨o, (hs.2 _ np).trans e, r⟩
      | some av' => obtain ⟨o, e, u, r, k⟩ := M; exact ⟨o, (hs.2 _ np).trans e, u, r, VR.mono hF _ _ k⟩
  · by_cases q : a = C.env.locals
    · obtain ⟨o, _, _, ho, _⟩ := hn; exact ⟨o, q ▸ ho⟩
    · obtain ⟨o, e⟩ := R.alive a ha; exact ⟨o, (hs.2 a q).trans e⟩

theorem store_local {A : Around} {s : Shared} {x : Str} {av : AV} {v : Value} {Q : Unit → Shared → Prop} {E : Value → Shared → Prop} (R : Rel w C ρ μ s.heap) (hv : VR (fz (exs C μ) s.heap) av v)
    (hk : C.env.kindOf x = some .local) (h : ∀ h' tk, Rel w C (put ρ x av) μ h' → Q () { s with heap := h', toks := tk }) : wpAny (model PR w) A (storeName C.env x v) Q E s := by
  obtain ⟨m, hm, hr⟩ := R.ns
  refine wpAny_storeName_local hk hm (fun h' hn hs => h h' _ (R.store hv hm hr hn hs)) ?_
  rw [R.ok.kind]; rfl

-- statements
theorem STo.leaf {t : Sem Flow} (h : ∀ (A : Around) (s : Shared) (Q : Flow → Shared → Prop) (E : Value → Shared → Prop), Room C.d A → 1 ≤ s.toks → Rel w C ρ μ s.heap →
    (∀ fl o h' tk, P o → FRel w C fl o h' → Q fl { s with heap := h', toks := tk }) → wpAny (model PR w) A t Q E s) : STo w C ρ μ t P :=
  fun A s Q E hr h1 R hQ => tok1 h1 (h A s _ _ hr h1 R fun fl o h' tk p x => fun h1' => hQ fl o h' tk h1' p x)
theorem STo.mono {t : Sem Flow} {P' : Out → Prop} (h : STo w C ρ μ t P) (k : ∀ o, P o → P' o) : STo w C ρ μ t P' :=
  fun A s Q E hr h1 R hQ => h A s Q E hr h1 R fun fl o h' tk h1' p x => hQ fl o h' tk h1' (k o p) x
theorem ExTo.mono {ss : List Stmt} {P' : Out → Prop} (h : ExTo w C ρ μ ss P) (k : ∀ o, P o → P' o) : ExTo w C ρ μ ss P' := STo.mono h k

theorem ExTo.nil (h : P (.next ρ μ)) : ExTo w C ρ μ [] P :=
  STo.leaf fun A s Q E _ _ R hQ => wpAny_execs_nil (hQ _ _ s.heap s.toks h ⟨rfl, R⟩)
theorem ExTo.cons {st : Stmt} {rest : List Stmt} {P1 : Out → Prop} (h : X1To w C ρ μ st P1) (k : ∀ ρ' μ', P1 (.next ρ' μ') → ExTo w C ρ' μ' rest P)
    (kb : ∀ ρ' μ', P1 (.brk ρ' μ') → P (.brk ρ' μ')) (kc : ∀ ρ' μ', P1 (.cont ρ' μ') → P (.cont ρ' μ')) (kr : ∀ av ρ' μ', P1 (.ret av ρ' μ') → P (.ret av ρ' μ')) : ExTo w C ρ μ (st :: rest) P :=
  fun A s Q E hr h1 R hQ => wpAny_execs_cons (h A s _ _ hr h1 R fun fl o h' tk h1' p x => by
    cases o with
    | next ρ' μ' => obtain ⟨rfl, R'⟩ := x; exact k ρ' μ' p A _ Q E hr h1' R' hQ
    | brk ρ' μ' => obtain ⟨rfl, R'⟩ := x; exact hQ _ _ h' tk h1' (kb _ _ p) ⟨rfl, R'⟩
    | cont ρ' μ' => obtain ⟨rfl, R'⟩ := x; exact hQ _ _ h' tk h1' (kc _ _ p) ⟨rfl, R'⟩
    | ret av ρ' μ' => obtain ⟨v, rfl, R'⟩ := x; exact hQ _ _ h' tk h1' (kr _ _ _ p) ⟨v, rfl, R'⟩)
theorem ExTo.then {st : Stmt} {rest : List Stmt} {ρ' : Rho} {μ' : Mu} (h : X1To w C ρ μ st (· = .next ρ' μ')) (k : ExTo w C ρ' μ' rest P) : ExTo w C ρ μ (st :: rest) P :=
  ExTo.cons h (fun _ _ e => by cases e; exact k) (fun _ _ e => by cases e) (fun _ _ e => by cases e) (fun _ _ _ e => by cases e)

theorem X1To.assign {x : Str} {p' p : Pos} {e : PySem.Expr} {av : AV} (h : EvTo w C ρ μ e av) (hk : C.env.kindOf x = some .local := by rfl)
    (hs : swapsWith e (some (.Name x p')) p.line C.env = pure false := by rfl) : X1To w C ρ μ (.Assign [.Name x p'] e p) (· = .next (put ρ x av) μ) :=
  fun A s Q E hr h1 R hQ => wpAny_Assign_Name (h A s _ _ hr h1 R fun v h' tk h1' g k => tok1 h1' (store_local (R.grow g) k hk fun h'' tk' R' => fun h1'' => hQ _ _ h'' tk' h1'' rfl ⟨rfl, R'⟩)) hs
theorem X1To.aug {x : Str} {p' p : Pos} {op : Operator} {e : PySem.Expr} {a b c : AV} (hl : ρ.lookup x = some a) (h : EvTo w C ρ μ e b) (ho : Op2 w C ρ μ (inplaceOp op) a b c) (hk : C.env.kindOf x = some .local := by rfl) :
    X1To w C ρ μ (.AugAssign (.Name x p') op e p) (· = .next (put ρ x c) μ) :=
  fun A s Q E hr h1 R hQ => by
    obtain ⟨m, hm, hro⟩ := R.ns
    obtain ⟨v0, hv0, k0⟩ := hro x a hl
    refine wpAny_AugAssign_Name (wpAny_loadName_local R.ok.kind hk hm hv0 ?_)
    refine h A s _ _ hr h1 R fun v h' tk h1' g k => tok1 h1' (ho A _ _ _ v0 v hr h1' (R.grow g) (k0.grow g) k fun v2 h2 tk2 g2 k2 => fun h12 => ?_)
    exact tok1 h12 (store_local ((R.grow g).grow g2) k2 hk fun h'' tk' R' => fun h1'' => hQ _ _ h'' tk' h1'' rfl ⟨rfl, R'⟩)
theorem X1To.if {t : PySem.Expr} {b o : List Stmt} {p : Pos} {c : Bool} (h : TrTo w C ρ μ t c) (hb : c = true → ExTo w C ρ μ b P) (ho : c = false → ExTo w C ρ μ o P) : X1To w C ρ μ (.If t b o p) P :=
  fun A s Q E hr h1 R hQ => wpAny_If (h A s _ _ hr h1 R fun h' tk h1' g => by
    cases c with
    | true => exact hb rfl A _ Q E hr h1' (R.grow g) hQ
    | false => exact ho rfl A _ Q E hr h1' (R.grow g) hQ)
theorem X1To.ret {e : PySem.Expr} {p : Pos} {av : AV} (h : EvTo w C ρ μ e av) : X1To w C ρ μ (.Return (some e) p) (· = .ret av ρ μ) :=
  fun A s Q E hr h1 R hQ => wpAny_Return_some (h A s _ _ hr h1 R fun v h' tk h1' g k => hQ _ _ h' tk h1' rfl ⟨v, rfl, R.grow g, k⟩)
theorem X1To.break {p : Pos} : X1To w C ρ μ (.Break p) (· = .brk ρ μ) := STo.leaf fun A s Q E _ _ R hQ => wpAny_Break (hQ _ _ s.heap s.toks rfl ⟨rfl, R⟩)
theorem X1To.continue {p : Pos} : X1To w C ρ μ (.Continue p) (· = .cont ρ μ) := STo.leaf fun A s Q E _ _ R hQ => wpAny_Continue (hQ _ _ s.heap s.toks rfl ⟨rfl, R⟩)
theorem ExTo.ret {e : PySem.Expr} {p : Pos} {av : AV} {rest : List Stmt} (h : EvTo w C ρ μ e av) (k : P (.ret av ρ μ)) : ExTo w C ρ μ (.Return (some e) p :: rest) P :=
  ExTo.cons (X1To.ret h) (fun _ _ e => by cases e) (fun _ _ e => by cases e) (fun _ _ e => by cases e) (fun _ _ _ e => by cases e; exact k)
end


noncomputable def Back (w : World) (C : Fc) (r : AV) (o : Out) : Prop := match o with
  | .ret av ρ' μ' => ∀ h v, Rel w C ρ' μ' h → VR (fz (exs C μ') h) av v → VR (fz C.ex0 h) r v
  | .next _ _ => r = .none
  | _ => False
theorem Back.same {w : World} {C : Fc} {r : AV} {ρ : Rho} {μ : Mu} : Back w C r (.ret r ρ μ) := fun _ _ _ x => x.fewer fun a ha => by unfold exs; simp [ha]

theorem zip_reverse_lookup : ∀ {names : List Str} {vs : List Value}, names.Nodup → ∀ x, (names.zip vs).reverse.lookup x = (names.zip vs).lookup x
  | [], _, _, _ => by simp
  | _ :: _, [], _, _ => by simp
  | n :: ns, v :: vs, hnd, x => by
    rw [List.nodup_cons] at hnd
    simp only [List.zip_cons_cons, List.reverse_cons, List.lookup_append, List.lookup_cons, List.lookup_nil]
    rw [zip_reverse_lookup hnd.2 x]
    by_cases h : x = n
    · subst h
      have : (ns.zip vs).lookup x = none := by
        rw [List.lookup_eq_none_iff]
        intro p hp
        have := (List.of_mem_zip hp).1
        simp only [bne_iff_ne, ne_eq, beq_eq_false_iff_ne]
        intro q
        exact hnd.1 (q ▸ this)
      simp [this]
    · have hb : (x == n) = false := beq_eq_false_iff_ne.mpr h
      simp [hb]
theorem zip_vrs {F : Addr → Option Obj} : ∀ {names : List Str} {args : List AV} {vs : List Value}, VRs F args vs → ORel F (fun x => (names.zip vs).lookup x) (names.zip args)
  | [], _, _, _ => fun x av h => by simp at h
  | _ :: _, [], _, _ => fun x av h => by simp at h
  | n :: ns, a :: as, _, h => fun x av e => by
    unfold VRs at h
    obtain ⟨v, r, rfl, p, q⟩ := h
    simp only [List.zip_cons_cons, List.lookup_cons] at e ⊢
    by_cases hx : x = n
    · subst hx; simp at e ⊢; subst e; exact p
    · have hb : (x == n) = false := beq_eq_false_iff_ne.mpr hx
      simp only [hb] at e ⊢
      exact zip_vrs q x av e

theorem enter {w : World} {d : Nat} {f : Addr} {name qual : Str} {params : Arguments} {body : List Stmt} {scope : Scope} {dV kV doc pm cdv ct oc : Value} {an od : Option Addr} {osl : Array (Option Value)} {args : List AV} {r : AV} (names : List Str)
    (ho : (KF w).lookup f = some ⟨oc, od, .func (fnOf name qual params body scope dV kV doc pm an cdv ct), osl⟩) (hcd : codeIn (KF w) cdv qual = true)
    (hbind : ∀ vs : List Value, vs.length = args.length → bindArgs (fnOf name qual params body scope dV kV doc pm an cdv ct) ⟨vs, []⟩ = pure (names.zip vs))
    (hnd : names.Nodup) (hloc : ∀ x ∈ names, scope.names.lookup x = some .local)
    (h : ∀ (h₀ : Heap) (L : Addr) (ex : List Addr), ExTo w ⟨h₀, envOf qual scope L f cdv, ex, d⟩ (names.zip args) [] body (Back w ⟨h₀, envOf qual scope L f cdv, ex, d⟩ r))
    (hco : scope.isCoroutine = false) (hgen : scope.isGenerator = false) (hk : scope.kind = .function) (hcell : ∀ x ∈ scope.names, x.2 ≠ .cell) : CallsTo w (d + 1) (.ref f) args r := by
  intro A s ex vs Q E hroom h1 B hex hvs hQ
  obtain ⟨_, _, _, mg, mb, T⟩ := B.top
  have hlen : vs.length = args.length := hvs.length
  refine wpAny_call ?_
  refine codeAny_call_def (fd := fnOf name qual params body scope dV kV doc pm an cdv ct) (body := body) (binds := names.zip vs) (by have := hroom.1.1; (first | lia | omega)) (B.kin _ _ ho) rfl T.nolimit (codeRec_of B.kin hcd) rfl (BindsTo.of_eq (hbind vs hlen)) hcell ?_ (fun h₁ hns hk₁ => ?_) hco hgen hk
  · intro x hx
    exact hloc x.1 (List.of_mem_zip hx).1
  · have hnew : s.heap.get? s.heap.objs.size = none := get?_size_none _
    have R : Rel w ⟨s.heap, envOf qual scope s.heap.objs.size f cdv, ex, d⟩ (names.zip args) [] h₁ := by
      refine ⟨⟨B, hk, rfl, rfl⟩, hk₁, ⟨_, hns, ?_⟩, fun p hp => by simp at hp, ?_, by simp [own], ?_, ?_⟩
      · have hz := zip_vrs (names := names) (hvs.more hnew hk₁)
        intro x av e
        obtain ⟨v, hv, k⟩ := hz x av e
        exact ⟨v, (zip_reverse_lookup hnd x).trans hv, k⟩
      · intro a ha
        simp only [own, List.map_nil, List.mem_cons, List.not_mem_nil, or_false] at ha
        rw [ha]; exact hnew
      · intro a ha q
        simp only [own, List.map_nil, List.mem_cons, List.not_mem_nil, or_false] at ha
        obtain ⟨o, e⟩ := hex a q
        rw [ha] at e
        have e' : s.heap.get? s.heap.objs.size = some o := e
        rw [hnew] at e'; cases e'
      · intro a ha
        simp only [exs, own, List.map_nil, List.cons_append, List.nil_append, List.mem_cons] at ha
        rcases ha with rfl | ha
        · obtain ⟨o, _, _, e, _⟩ := hns; exact ⟨o, e⟩
        · obtain ⟨o, e⟩ := hex a ha; exact ⟨o, hk₁ _ _ e⟩
    refine h s.heap s.heap.objs.size ex (A.deeper (callEnv (fnOf name qual params body scope dV kV doc pm an cdv ct) s.heap.objs.size f)) _ _ _ ⟨⟨?_, ?_⟩, ?_, hroom.2.2⟩ ?_ R fun fl o h' tk h1' p x => ?_
    · have := hroom.1.1
      show A.depth + 1 + d + 120 < recursionLimit
      (first | lia | omega)
    · obtain ⟨env, l, hf, _⟩ := hroom.1.2
      exact ⟨_, _, Around.frames_deeper hf, hgen, hco, rfl, rfl⟩
    · have := hroom.2.1
      show A.units + 3 + 10 * d + 100 < cLine
      (first | lia | omega)
    · show 1 ≤ s.toks + _
      (first | lia | omega)
    · cases o with
      | next ρ' μ' =>
        obtain ⟨rfl, R'⟩ := x
        have e : r = .none := p
        subst e
        exact hQ _ h' tk h1' R'.keep vr_none'
      | brk ρ' μ' => exact p.elim
      | cont ρ' μ' => exact p.elim
      | ret av ρ' μ' =>
        obtain ⟨v, rfl, R', k⟩ := x
        exact hQ _ h' tk h1' R'.keep (p h' v R' k)
end Mine
end

section
open PySem PySem.W PyProof.Rows
set_option Elab.async false
set_option maxRecDepth 100000
set_option linter.all false
namespace Mine

noncomputable def sl {α : Type} (xs : List α) (lo hi : Option Int) : List α := (xs.drop (lo.elim 0 (clipAt xs.length))).take (hi.elim xs.length (clipAt xs.length) - lo.elim 0 (clipAt xs.length))
theorem sl_len {α : Type} (xs : List α) (lo hi : Option Int) : (sl xs lo hi).length ≤ xs.length := by unfold sl; simp; omega
theorem slicePick_sl (vs : List Value) (lo hi : Option Int) : slicePick vs.toArray lo hi none = (sl vs lo hi).toArray := by
  rw [slicePick_plain]; simp [sl]
theorem strIdx (lo hi : Option Int) (n : Nat) : Builtin.Str.strSliceIndices lo hi 1 n = sliceRange ((lo.elim 0 (clipAt n) : Nat) : Int) ((hi.elim n (clipAt n) : Nat) : Int) 1 := by
  cases lo <;> cases hi <;> simp [Builtin.Str.strSliceIndices, clipAt_cast]
theorem clip_le (n : Nat) (i : Int) : clipAt n i ≤ n := by
  have := clipAt_cast n i
  omega
theorem clipE_le (n : Nat) (i : Option Int) : i.elim n (clipAt n) ≤ n := by
  cases i with
  | none => exact Nat.le_refl _
  | some i => exact clip_le n i
theorem slice_sl (x : List Nat) (lo hi : Option Int) : Txt.slice (mk x) lo hi = mk (sl x lo hi) := by
  have e : ((Builtin.Str.strSliceIndices lo hi 1 (mk x).length).filterMap ((mk x).cps[·]?)) = sl x lo hi := by
    rw [strIdx, mk_len, sliceRange_one]
    rw [pick_run]
    simp [sl]
  unfold Txt.slice
  split
  · rename_i h
    simp only [beq_self_eq_true, Bool.true_and, beq_iff_eq] at h
    have l1 : (sl x lo hi).length = x.length := by
      rw [strIdx, mk_len, sliceRange_one] at h
      simp at h
      have hb := clipE_le x.length hi
      unfold sl
      simp
      omega
    have : sl x lo hi = x := by
      unfold sl at l1 ⊢
      simp at l1
      have h0 : lo.elim 0 (clipAt x.length) = 0 ∨ x.length = 0 := by omega
      rcases h0 with h0 | h0
      · rw [h0] at l1 ⊢
        rw [List.drop_zero, List.take_of_length_le (by omega)]
      · have : x = [] := List.eq_nil_of_length_eq_zero h0
        subst this; simp
    rw [this]
  · rw [e]

theorem VRs.sl {F : Addr → Option Obj} {xs : List AV} {vs : List Value} (h : VRs F xs vs) (lo hi : Option Int) : VRs F (sl xs lo hi) (Mine.sl vs lo hi) := by
  unfold Mine.sl
  rw [h.length]
  exact (h.drop _).take _

section
variable {w : World} {C : Fc} {ρ : Rho} {μ : Mu}

-- lists of values
noncomputable def LTo (w : World) (C : Fc) (ρ : Rho) (μ : Mu) (t : Sem (List Value)) (avs : List AV) : Prop :=
  ∀ (A : Around) (s : Shared) (Q : List Value → Shared → Prop) (E : Value → Shared → Prop), Room C.d A → 1 ≤ s.toks → Rel w C ρ μ s.heap →
    (∀ vs h' tk, 1 ≤ tk → Grow s.heap h' → VRs (fz (exs C μ) h') avs vs → Q vs { s with heap := h', toks := tk }) → wpAny (model PR w) A t Q E s
noncomputable def ArgsTo (w : World) (C : Fc) (ρ : Rho) (μ : Mu) (p : Pos) (es : List PySem.Expr) (avs : List AV) : Prop := LTo w C ρ μ (spliced (backTo p (starEach es C.env))) avs
theorem ArgsTo.nil {p : Pos} : ArgsTo w C ρ μ p [] [] := fun A s Q E hr h1 R hQ => wpAny_items_nil (hQ _ s.heap s.toks h1 (Grow.refl _) VRs.nil)
theorem ArgsTo.cons {p : Pos} {e : PySem.Expr} {es : List PySem.Expr} {av : AV} {avs : List AV} (h : EvTo w C ρ μ e av) (k : ArgsTo w C ρ μ p es avs)
    (he : starEach (e :: es) C.env = (false, eval e C.env) :: starEach es C.env := by rfl) : ArgsTo w C ρ μ p (e :: es) (av :: avs) :=
  fun A s Q E hr h1 R hQ => wpAny_items_cons (h A s _ _ hr h1 R fun v h' tk h1' g x => k A _ _ _ hr h1' (R.grow g) fun vs h'' tk' h1'' g' x' => hQ _ h'' tk' h1'' (g.trans g') (VRs.cons (x.grow g') x')) he

-- displays
theorem EvTo.list {es : List PySem.Expr} {p : Pos} {avs : List AV} (h : ArgsTo w C ρ μ p es avs) (hl : avs.length ≤ LIM := by decide) : EvTo w C ρ μ (.List es p) (.list avs) :=
  fun A s Q E hr h1 R hQ => wpAny_List (h A s _ _ hr h1 R fun vs h' tk h1' g x => ⟨by rw [x.length]; exact lim_size hl, by
    refine hQ _ _ tk h1' (g.trans (Grow.push _ _)) (vr_list' (n := 0) (fz_of ?_ (Heap.get?_push_size _ rfl)) (x.grow (Grow.push _ _)) hl)
    intro q
    obtain ⟨o, e⟩ := (R.grow g).alive _ q
    exact absurd (Heap.lt_size e) (Nat.lt_irrefl _)⟩)
theorem EvTo.tup {es : List PySem.Expr} {k : Nat} {p : Pos} {avs : List AV} (h : ArgsTo w C ρ μ p es avs) (hl : avs.length ≤ LIM := by decide) : EvTo w C ρ μ (.Tuple es k p) (.tup avs) :=
  fun A s Q E hr h1 R hQ => wpAny_Tuple (h A s _ _ hr h1 R fun vs h' tk h1' g x => ⟨by rw [x.length]; exact lim_size hl, by
    refine hQ _ _ tk h1' (g.trans (Grow.push _ _)) (vr_tup' (n := 0) (fz_of ?_ (Heap.get?_push_size _ rfl)) (x.grow (Grow.push _ _)) hl)
    intro q
    obtain ⟨o, e⟩ := (R.grow g).alive _ q
    exact absurd (Heap.lt_size e) (Nat.lt_irrefl _)⟩)

-- calls
noncomputable def Cal (w : World) (f : Value) : Prop := (∃ id, f = .builtin id) ∨ (∃ T, f = .type T) ∨ (∃ a o fd, f = .ref a ∧ (KF w).lookup a = some o ∧ o.data = .func fd)
theorem EvTo.call {x : Str} {xp p : Pos} {e : PySem.Expr} {es : List PySem.Expr} {f : Value} {avs : List AV} {r : AV} (hf : EvTo w C ρ μ (.Name x xp) (.val f)) (ha : ArgsTo w C ρ μ p (e :: es) avs) (hc : CallsTo w C.d f avs r) (hcal : Cal w f)
    (he : starEach (e :: es) C.env = (false, eval e C.env) :: starEach es C.env := by rfl) (hplain : (backTo p (starEach es C.env)).any (·.1) = false := by rfl) : EvTo w C ρ μ (.Call (.Name x xp) (e :: es) [] p) r :=
  fun A s Q E hr h1 R hQ => by
    show wpAny _ _ (do callWith p (← eval (.Name x xp) C.env) [] (backTo p (starEach (e :: es) C.env)) (backToKw p (keywordEach [] C.env))) _ _ _
    refine wpAny_bind (hf A s _ _ hr h1 R fun v h' tk h1' g k => ?_)
    rw [vr_val k]
    have R' := R.grow g
    have run : wpAny (model PR w) A (spliced (backTo p (starEach (e :: es) C.env))) (fun vs s₁ => (∃ h'', Grow h' h'' ∧ s₁.heap = h'') ∧ wpAny (model PR w) A (PySem.call f vs) Q E s₁) E { s with heap := h', toks := tk } :=
      ha A _ _ _ hr h1' R' fun vs h'' tk' h1'' g' xs => ⟨⟨h'', g', rfl⟩, hc A _ (exs C μ) vs Q E hr h1'' (R'.ok.base.grow (R'.keep.trans g')) (R'.grow g').alive xs fun v' h3 tk3 h13 g3 x3 => hQ v' h3 tk3 h13 ((g.trans g').trans g3) x3⟩
    rw [he] at run ⊢
    have hpl : ((backTo p ((false, eval e C.env) :: starEach es C.env))).any (·.1) = false := by
      show (false || (backTo p (starEach es C.env)).any (·.1)) = false
      rw [hplain]; rfl
    rcases hcal with ⟨id, rfl⟩ | ⟨T, rfl⟩ | ⟨a, o, fd, rfl, ho, hd⟩
    · exact Calls.callWith_builtin hpl (Calls.evalArgs_plain (wpAny_mono run (fun vs s₁ h => h.2) fun _ _ x => x))
    · exact PyProof.Rows.callWith_type hpl (Calls.evalArgs_plain (wpAny_mono run (fun vs s₁ h => h.2) fun _ _ x => x))
    · refine Calls.callWith_function (o := o) (fd := fd) (Calls.evalArgs_plain (wpAny_mono run (fun vs s₁ h => ⟨⟨?_, hd⟩, h.2⟩) fun _ _ x => x))
      obtain ⟨⟨h'', g', e'⟩, _⟩ := h
      rw [e']
      exact g' _ _ (R'.keep _ _ (R'.ok.base.kin _ _ ho))
theorem EvTo.smeth {o : PySem.Expr} {name : Str} {ap p : Pos} {e : PySem.Expr} {es : List PySem.Expr} {id : String} {x : List Nat} {avs : List AV} {r : AV} {pl : Sem Bool}
    (ho : EvTo w C ρ μ o (.str x)) (hg : ∀ (A : Around) (s : Shared) (Q : Value × List Value → Shared → Prop) (E : Value → Shared → Prop) (t : Tok), Q (.builtin id, [.str (mk x) t]) s → wpAny (model PR w) A (getMethod (.str (mk x) t) name pl) Q E s)
    (ha : ArgsTo w C ρ μ p (e :: es) avs) (hc : CallsTo w C.d (.builtin id) (.str x :: avs) r)
    (hE : eval (.Call (.Attribute o name ap) (e :: es) [] p) C.env = (do
      let ov ← eval o C.env
      standAt ap.atName
      let (f, first) ← holding [ov] (getMethod ov name pl)
      callWith p f first (backTo p (starEach (e :: es) C.env)) []) := by rfl)
    (he : starEach (e :: es) C.env = (false, eval e C.env) :: starEach es C.env := by rfl) (hplain : (backTo p (starEach es C.env)).any (·.1) = false := by rfl) : EvTo w C ρ μ (.Call (.Attribute o name ap) (e :: es) [] p) r :=
  fun A s Q E hr h1 R hQ => MethodCall_ (ho A s _ _ hr h1 R fun v h' tk h1' g k => by
    obtain ⟨⟨t, rfl⟩, hl⟩ := vr_str k
    refine hg A _ _ _ t ?_
    refine callWith_method1 ?_ he hplain
    have R' := R.grow g
    exact ha A _ _ _ hr h1' R' fun vs h'' tk' h1'' g' xs => hc A _ (exs C μ) _ Q E hr h1'' (R'.ok.base.grow (R'.keep.trans g')) (R'.grow g').alive (VRs.cons (vr_str' hl) xs) fun v' h3 tk3 h13 g3 x3 => hQ v' h3 tk3 h13 ((g.trans g').trans g3) x3) hE

-- subscripts
theorem ltg_str (value : PySem.Expr) (x : Str) (t : Tok) (r : Value) : letTemporaryGo value (.str x t) r = pure () := by unfold letTemporaryGo; split <;> first | rfl | (rename_i h; cases h)
noncomputable def PartTo (w : World) (C : Fc) (ρ : Rho) (μ : Mu) (e : Option PySem.Expr) (i : Option Int) : Prop := match e, i with
  | Option.none, Option.none => True
  | some e, some i => EvTo w C ρ μ e (.int i)
  | _, _ => False
theorem PartTo.run {e : Option PySem.Expr} {i : Option Int} (h : PartTo w C ρ μ e i) {A : Around} {s : Shared} {Q E : Value → Shared → Prop} (hr : Room C.d A) (h1 : 1 ≤ s.toks) (R : Rel w C ρ μ s.heap)
    (hQ : ∀ v h' tk, 1 ≤ tk → Grow s.heap h' → IsPart v i → Q v { s with heap := h', toks := tk }) : wpAny (model PR w) A (evalPart e C.env) Q E s := by
  cases e with
  | none => cases i with
    | none => rw [evalPart_none]; exact wpAny_pure (hQ _ s.heap s.toks h1 (Grow.refl _) .none)
    | some i => exact h.elim
  | some e => cases i with
    | none => exact h.elim
    | some i =>
      rw [evalPart_some]
      refine h A s Q E hr h1 R fun v h' tk h1' g x => ?_
      obtain ⟨t, rfl⟩ := vr_int x
      exact hQ _ h' tk h1' g (.int i t)
theorem EvTo.slices {value : PySem.Expr} {lo hi : Option PySem.Expr} {q p : Pos} {x : List Nat} {i j : Option Int} (h : EvTo w C ρ μ value (.str x)) (hl : PartTo w C ρ μ lo i) (hh : PartTo w C ρ μ hi j) :
    EvTo w C ρ μ (.Subscript value (.Slice lo hi Option.none q) p) (.str (sl x i j)) :=
  fun A s Q E hr h1 R hQ => tok1 h1 (Subscript_ (h A s _ _ hr h1 R fun v h' tk h1' g k => by
    obtain ⟨⟨t, rfl⟩, hlen⟩ := vr_str k
    refine wpAny_Slice (hl.run hr h1' (R.grow g) fun v1 h2 tk2 h12 g2 k1 => hh.run hr h12 ((R.grow g).grow g2) fun v2 h3 tk3 h13 g3 k2 => ?_)
    rw [evalPart_none]
    refine wpAny_pure ?_
    have hq : ∀ h' t' k, Grow h3 h' → (fun v s' => 1 ≤ s'.toks → Q v s') (.str (Txt.slice (mk x) i j) t') { s with heap := h', toks := k } := fun h4 t' k4 g4 h14 => by
      rw [slice_sl]
      exact hQ _ h4 k4 h14 (((g.trans g2).trans g3).trans g4) (vr_str' (Nat.le_trans (sl_len _ _ _) hlen))
    have hsz : (mk x).length ≤ sizeLine := by rw [mk_len]; exact lim_size hlen
    have kH : KeptH (Grow h3) := fun h ob e => e.trans (Grow.push _ _)
    refine tail_of_ItemOn (ops := [.ref h3.objs.size, .str (mk x) t]) ?_ rfl (fun r => ltg_str value (mk x) t r)
    cases k1 <;> cases k2
    · exact SBH.sliceItem_nn (s := { s with heap := h3, toks := tk3 }) kH (Grow.refl _) hq hsz
    · exact SBH.sliceItem_ns (s := { s with heap := h3, toks := tk3 }) kH (Grow.refl _) hq hsz
    · exact SBH.sliceItem_sn (s := { s with heap := h3, toks := tk3 }) kH (Grow.refl _) hq hsz
    · exact SBH.sliceItem_ss (s := { s with heap := h3, toks := tk3 }) kH (Grow.refl _) hq hsz))
theorem EvTo.slicel {value : PySem.Expr} {lo hi : Option PySem.Expr} {q p : Pos} {xs : List AV} {i j : Option Int} (h : EvTo w C ρ μ value (.list xs)) (hl : PartTo w C ρ μ lo i) (hh : PartTo w C ρ μ hi j) :
    EvTo w C ρ μ (.Subscript value (.Slice lo hi Option.none q) p) (.list (sl xs i j)) :=
  fun A s Q E hr h1 R hQ => tok1 h1 (Subscript_ (h A s _ _ hr h1 R fun v h' tk h1' g k => by
    obtain ⟨a, vs, n, rfl, ea, kvs, hlen⟩ := vr_list k
    refine wpAny_Slice (hl.run hr h1' (R.grow g) fun v1 h2 tk2 h12 g2 k1 => hh.run hr h12 ((R.grow g).grow g2) fun v2 h3 tk3 h13 g3 k2 => ?_)
    rw [evalPart_none]
    refine wpAny_pure ?_
    have ea3 : (h3.push { cls := .type "slice", data := .fields #[v1, v2, .none] }).get? a = some (listObj vs n) := Heap.get?_push_of_some _ (g3 _ _ (g2 _ _ (fz_get ea)))
    have hL : Heap.IsList (h3.push { cls := .type "slice", data := .fields #[v1, v2, .none] }) a vs.toArray := ⟨_, ea3, rfl, n, rfl⟩
    refine tail_any (ops := [.ref h3.objs.size, .ref a]) hL.typeIs slot_list_getitem.lookup (wpAny_getItem_list_slice hL (Heap.IsSliceOf.new ..) k1 k2 .none (by simp) ?_ ?_) rfl
    · intro h14
      rw [slicePick_sl]
      have g4 := (((g.trans g2).trans g3).trans (Grow.push h3 { cls := .type "slice", data := .fields #[v1, v2, .none] }))
      have g5 := g4.trans (Grow.push (h3.push { cls := .type "slice", data := .fields #[v1, v2, .none] }) (listObj (sl vs i j) 0))
      refine hQ _ _ tk3 h13 g5 (vr_list' (n := 0) (fz_of ?_ (Heap.get?_push_size _ rfl)) ?_ (Nat.le_trans (sl_len _ _ _) hlen))
      · intro q
        obtain ⟨o, e⟩ := (R.grow g4).alive _ q
        exact absurd (Heap.lt_size e) (Nat.lt_irrefl _)
      · exact VRs.grow (ex := exs C μ) (kvs.sl i j) (((g2.trans g3).trans (Grow.push _ _)).trans (Grow.push _ _))
    · show vs.toArray.size ≤ sizeLine
      rw [List.size_toArray, kvs.length]; exact lim_size hlen))
end
end Mine
end

section
open PySem PySem.W PyProof.Rows
set_option Elab.async false
set_option maxRecDepth 100000
set_option linter.all false
namespace Mine
theorem vrs1 {F : Addr → Option Obj} {a : AV} {vs : List Value} (h : VRs F [a] vs) : ∃ u, vs = [u] ∧ VR F a u := by
  unfold VRs at h; obtain ⟨v, r, rfl, e, k⟩ := h; unfold VRs at k; subst k; exact ⟨v, rfl, e⟩
theorem vrs2 {F : Addr → Option Obj} {a b : AV} {vs : List Value} (h : VRs F [a, b] vs) : ∃ u v, vs = [u, v] ∧ VR F a u ∧ VR F b v := by
  unfold VRs at h; obtain ⟨v, r, rfl, e, k⟩ := h; obtain ⟨u, rfl, f⟩ := vrs1 k; exact ⟨v, u, rfl, e, f⟩
theorem CallsTo.leaf {w : World} {d : Nat} {f : Value} {args : List AV} {r : AV} (h : ∀ (A : Around) (s : Shared) (ex : List Addr) (vs : List Value) (Q E : Value → Shared → Prop), Room d A → 1 ≤ s.toks → Base w s.heap → (∀ a ∈ ex, ∃ o, s.heap.get? a = some o) →
    VRs (fz ex s.heap) args vs → (∀ v h' tk, Grow s.heap h' → VR (fz ex h') r v → Q v { s with heap := h', toks := tk }) → wpAny (model PR w) A (call f vs) Q E s) : CallsTo w d f args r :=
  fun A s ex vs Q E hr h1 B hex hvs hQ => tok1 h1 (h A s ex vs _ _ hr h1 B hex hvs fun v h' tk g x => fun h1' => hQ v h' tk h1' g x)
section
variable {w : World} {d : Nat}
theorem nested_str {prog : Program} {w : World} {A : Around} {s : Shared} {E : Value → Shared → Prop} {Q : PySem.Fin → Shared → Prop} {k : Int} {t : Tok} (hq : Q (.done (.ret (.bool true))) s) :
    wpAny (model prog w) A (Builtin.«issubclass.nested» ⟨[.type "str", .type "str", .int k t], []⟩) Q E s := by
  have hm : typeOf (.type "str") = pure (.type "type") := by kernel_rfl
  have hself : isSubtype (.type "str") (.type "str") = pure true := by rw [isSubtype_type]; kernel_rfl
  repeat (any_goals (first | assumption | (rw [hm]) | (rw [hself]) | wp_step))
theorem nested_tup {prog : Program} {w : World} {A : Around} {s : Shared} {E : Value → Shared → Prop} {Q : PySem.Fin → Shared → Prop} {a : Addr} {n : Nat} {t : Tok} (ha : s.heap.get? a = some (tupObj [.type "str", .type "bytes"] n)) (hq : ∀ k, Q (.done (.ret (.bool true))) { s with toks := k }) :
    wpAny (model prog w) A (Builtin.«issubclass.nested» ⟨[.type "str", .ref a, .int 0 t], []⟩) Q E s := by
  unfold Builtin.«issubclass.nested»
  have hT : s.TypeIs (.ref a) "tuple" := ⟨_, ha, rfl⟩
  repeat (any_goals (first | assumption | wp_step))
  rw [F.isi_self_tuple]
  refine wpAny_pure ?_
  rw [if_pos rfl]
  dsimp only
  rw [if_neg (by decide)]
  refine wpAny_bind (wpAny_seqItems ha rfl ?_)
  show wpAny _ _ (forIn #[Value.type "str", Value.type "bytes"] _ _ >>= _) _ _ _
  rw [← Array.forIn_toList]
  refine wpAny_bind ?_
  rw [List.forIn_cons]
  refine wpAny_bind (wpAny_bind (Calls.call_function_entry (by decide +kernel) (by decide +kernel) F.entry_issubclass_nested (by unfold argsOk; kernel_rfl) (nested_str ⟨_, rfl, ?_⟩)))
  refine wpAny_bind (wpAny_truthy_bool ?_)
  rw [if_pos rfl]
  exact wpAny_pure (wpAny_pure (wpAny_pure (hq s.toks)))
theorem call_issub : CallsTo w d (.builtin "issubclass") [.val (.type "str"), .tup [.val (.type "str"), .val (.type "bytes")]] (.bool true) :=
  CallsTo.leaf fun A s ex vs Q E hroom h1 B hex hvs hQ => by
    obtain ⟨u, v, rfl, e1, e2⟩ := vrs2 hvs
    obtain rfl := vr_val e1
    obtain ⟨a, vs, n, rfl, ea, kvs, hlen⟩ := vr_tup e2
    obtain ⟨u, v, rfl, e3, e4⟩ := vrs2 kvs
    obtain rfl := vr_val e3
    obtain rfl := vr_val e4
    refine call_issubclass (S := fun A R s => s.heap.get? a = some (tupObj [.type "str", .type "bytes"] n) ∧ ∀ k, R (.ok (.ret (.bool true))) { s with toks := k }) (fun prog w A R s hs => issubclass_outer (nested_tup hs.1 fun k => hs.2 k)) ⟨fz_get ea, fun k => ?_⟩
    exact hQ _ s.heap k (Grow.refl _) vr_bool'
theorem call_isi_bytes {x : List Nat} : CallsTo w d (.builtin "isinstance") [.str x, .val (.type "bytes")] (.bool false) :=
  CallsTo.leaf fun A s ex vs Q E hroom h1 B hex hvs hQ => by
    obtain ⟨u, v, rfl, e1, e2⟩ := vrs2 hvs
    obtain rfl := vr_val e2
    obtain ⟨⟨t, rfl⟩, _⟩ := vr_str e1
    exact IsiPair.str_bytes (hQ _ s.heap _ (Grow.refl _) vr_bool')
theorem call_isi_str {x : List Nat} : CallsTo w d (.builtin "isinstance") [.str x, .val (.type "str")] (.bool true) :=
  CallsTo.leaf fun A s ex vs Q E hroom h1 B hex hvs hQ => by
    obtain ⟨u, v, rfl, e1, e2⟩ := vrs2 hvs
    obtain rfl := vr_val e2
    obtain ⟨⟨t, rfl⟩, _⟩ := vr_str e1
    exact IsiPair.str_str (hQ _ s.heap s.toks (Grow.refl _) vr_bool')
end
end Mine
end

section
open PySem PySem.W PyProof.Rows
set_option Elab.async false
set_option maxRecDepth 100000
set_option linter.all false
namespace Mine
section
variable {w : World} {d : Nat}
theorem g_fspath : nsIn (KF w) mainGlobals (Str.ofString "fspath") = some (some (.ref 117)) := by kernel_rfl
theorem g_get_sep : nsIn (KF w) mainGlobals (Str.ofString "_get_sep") = some (some (.ref 131)) := by kernel_rfl
theorem g_join : nsIn (KF w) mainGlobals (Str.ofString "join") = some (some (.ref 742)) := by kernel_rfl
theorem g_join_posixpath : nsIn (KF w) mainGlobals (Str.ofString "join_posixpath") = some (some (.ref 138)) := by kernel_rfl
theorem g_splitroot : nsIn (KF w) mainGlobals (Str.ofString "splitroot") = some (some (.ref 145)) := by kernel_rfl
theorem g_normpath : nsIn (KF w) mainGlobals (Str.ofString "normpath") = some (some (.ref 152)) := by kernel_rfl
theorem g_index : nsIn (KF w) mainGlobals (Str.ofString "_index") = some (some (.ref 171)) := by kernel_rfl
theorem g_quote : nsIn (KF w) mainGlobals (Str.ofString "quote") = some (some (.ref 860)) := by kernel_rfl
theorem g_law_tour : nsIn (KF w) mainGlobals (Str.ofString "_law_tour") = some (some (.ref 867)) := by kernel_rfl
theorem g_law_spell : nsIn (KF w) mainGlobals (Str.ofString "_law_spell") = some (some (.ref 874)) := by kernel_rfl
theorem g_law_line : nsIn (KF w) mainGlobals (Str.ofString "_law_line") = some (some (.ref 881)) := by kernel_rfl
theorem g_law_text : nsIn (KF w) mainGlobals (Str.ofString "_law_text") = some (some (.ref 886)) := by kernel_rfl
theorem g_split : nsIn (KF w) mainGlobals (Str.ofString "split") = some (some (.ref 852)) := by kernel_rfl
theorem n_type : nsIn (KF w) mainGlobals (Str.ofString "type") = some Option.none := by kernel_rfl
theorem n_issubclass : nsIn (KF w) mainGlobals (Str.ofString "issubclass") = some Option.none := by kernel_rfl
theorem n_isinstance : nsIn (KF w) mainGlobals (Str.ofString "isinstance") = some Option.none := by kernel_rfl
theorem n_str : nsIn (KF w) mainGlobals (Str.ofString "str") = some Option.none := by kernel_rfl
theorem n_bytes : nsIn (KF w) mainGlobals (Str.ofString "bytes") = some Option.none := by kernel_rfl
theorem n_len : nsIn (KF w) mainGlobals (Str.ofString "len") = some Option.none := by kernel_rfl
theorem n_range : nsIn (KF w) mainGlobals (Str.ofString "range") = some Option.none := by kernel_rfl
theorem n_enumerate : nsIn (KF w) mainGlobals (Str.ofString "enumerate") = some Option.none := by kernel_rfl
theorem n_max : nsIn (KF w) mainGlobals (Str.ofString "max") = some Option.none := by kernel_rfl
theorem n_int : nsIn (KF w) mainGlobals (Str.ofString "int") = some Option.none := by kernel_rfl
theorem n_bool : nsIn (KF w) mainGlobals (Str.ofString "bool") = some Option.none := by kernel_rfl
theorem n_list : nsIn (KF w) mainGlobals (Str.ofString "list") = some Option.none := by kernel_rfl
theorem call_typeof {x : List Nat} : CallsTo w d (.type "type") [.str x] (.val (.type "str")) :=
  CallsTo.leaf fun A s ex vs Q E hroom h1 B hex hvs hQ => by
    obtain ⟨u, rfl, e1⟩ := vrs1 hvs
    obtain ⟨⟨t, rfl⟩, _⟩ := vr_str e1
    exact call_type_of (typeIs_str _ _ _) (by decide) (hQ _ s.heap s.toks (Grow.refl _) vr_val')
theorem cal_b {w : World} {id : String} : Cal w (.builtin id) := .inl ⟨_, rfl⟩
theorem cal_t {w : World} {id : String} : Cal w (.type id) := .inr (.inl ⟨_, rfl⟩)
theorem cal_f {w : World} {a : Addr} {o : Obj} {fd : FuncData} (h : (KF w).lookup a = some o) (h' : o.data = .func fd) : Cal w (.ref a) := .inr (.inr ⟨_, _, _, rfl, h, h'⟩)
theorem execs_append {C : Fc} (b rest : List Stmt) : execs (b ++ rest) C.env = (do match ← execs b C.env with | .next => execs rest C.env | f => pure f) := by
  induction b with
  | nil => rfl
  | cons st b ih =>
    show (do match ← exec st C.env with | .next => execs (b ++ rest) C.env | f => pure f) = (do match ← (do match ← exec st C.env with | .next => execs b C.env | f => pure f) with | .next => execs rest C.env | f => pure f)
    rw [bind_assoc]
    congr 1
    funext f
    cases f with
    | next => exact ih
    | brk => rfl
    | cont => rfl
    | ret v => rfl
theorem ExTo.iff {C : Fc} {ρ : Rho} {μ : Mu} {P : Out → Prop} {t : PySem.Expr} {b o rest : List Stmt} {p : Pos} {c : Bool} (h : TrTo w C ρ μ t c) (hb : c = true → ExTo w C ρ μ (b ++ rest) P) (ho : c = false → ExTo w C ρ μ (o ++ rest) P) : ExTo w C ρ μ (.If t b o p :: rest) P := by
  have e : execs (.If t b o p :: rest) C.env = (do standAt p; if ← isTrue t C.env (eval t C.env) then execs (b ++ rest) C.env else execs (o ++ rest) C.env) := by
    show (do match ← exec (.If t b o p) C.env with | .next => execs rest C.env | f => pure f) = _
    rw [exec_If, bind_assoc]
    congr 1
    funext _
    rw [bind_assoc]
    congr 1
    funext c
    cases c with
    | true => exact (execs_append b rest).symm
    | false => exact (execs_append o rest).symm
  intro A s Q E hr h1 R hQ
  rw [e]
  refine wpAny_bind (wpAny_standAt (wpAny_bind (h A s _ _ hr h1 R fun h' tk h1' g => ?_)))
  cases c with
  | true => exact hb rfl A _ Q E hr h1' (R.grow g) hQ
  | false => exact ho rfl A _ Q E hr h1' (R.grow g) hQ
end
end Mine
end

section
open PySem PySem.W PyProof.Rows
set_option Elab.async false
set_option maxRecDepth 100000
set_option linter.all false
namespace Mine
section
variable {F F' : Addr → Option Obj} (hl : ∀ a vs n, F a = some (listObj vs n) → F' a = some (listObj vs n)) (ht : ∀ a vs n, F a = some (tupObj vs n) → F' a = some (tupObj vs n))
include hl ht
mutual
theorem VR.mono2 : ∀ (av : AV) (v : Value), VR F av v → VR F' av v
  | .none, v, h => by unfold VR at h ⊢; exact h
  | .bool _, v, h => by unfold VR at h ⊢; exact h
  | .int _, v, h => by unfold VR at h ⊢; exact h
  | .str _, v, h => by unfold VR at h ⊢; exact h
  | .val _, v, h => by unfold VR at h ⊢; exact h
  | .list xs, v, h => by unfold VR at h ⊢; obtain ⟨a, vs, n, e, f, r, l⟩ := h; exact ⟨a, vs, n, e, hl _ _ _ f, VRs.mono2 xs vs r, l⟩
  | .tup xs, v, h => by unfold VR at h ⊢; obtain ⟨a, vs, n, e, f, r, l⟩ := h; exact ⟨a, vs, n, e, ht _ _ _ f, VRs.mono2 xs vs r, l⟩
theorem VRs.mono2 : ∀ (xs : List AV) (vs : List Value), VRs F xs vs → VRs F' xs vs
  | [], vs, h => by unfold VRs at h ⊢; exact h
  | x :: xs, vs, h => by unfold VRs at h ⊢; obtain ⟨v, r, e, p, q⟩ := h; exact ⟨v, r, e, VR.mono2 x v p, VRs.mono2 xs r q⟩
end
end

section
variable {w : World} {C : Fc} {ρ : Rho} {μ : Mu}

noncomputable def NoSeq (h : Heap) (a : Addr) : Prop := (∀ vs n, h.get? a ≠ some (listObj vs n)) ∧ ∀ vs n, h.get? a ≠ some (tupObj vs n)

theorem Rel.turn {h h' : Heap} {its : List Addr} (R : Rel w C ρ μ h) (hx : ∀ b o, b ∉ its → h.get? b = some o → h'.get? b = some o)
    (hn : ∀ a ∈ its, a ∉ exs C μ ∧ C.h₀.get? a = Option.none ∧ NoSeq h a) : Rel w C ρ μ h' := by
  have hl : ∀ a vs n, fz (exs C μ) h a = some (listObj vs n) → fz (exs C μ) h' a = some (listObj vs n) := fun a vs n e =>
    fz_of (fz_not e) (hx a _ (fun q => (hn a q).2.2.1 vs n (fz_get e)) (fz_get e))
  have ht : ∀ a vs n, fz (exs C μ) h a = some (tupObj vs n) → fz (exs C μ) h' a = some (tupObj vs n) := fun a vs n e =>
    fz_of (fz_not e) (hx a _ (fun q => (hn a q).2.2.2 vs n (fz_get e)) (fz_get e))
  have hexs : ∀ a ∈ exs C μ, a ∉ its := fun a ha q => (hn a q).1 ha
  have hown : ∀ a ∈ own C μ, a ∉ its := fun a ha => hexs a (by unfold exs; exact List.mem_append_left _ ha)
  refine ⟨R.ok, fun b o e => hx b o (fun q => by rw [(hn b q).2.1] at e; cases e) (R.keep b o e), ?_, fun p hp => ?_, R.new, R.nd, R.dj, fun a ha => ?_⟩
  · obtain ⟨m, ⟨o, es, ep, e, r⟩, k⟩ := R.ns
    refine ⟨m, ⟨o, es, ep, hx _ _ (hown _ (by unfold own; simp)) e, r⟩, fun x av hx' => ?_⟩
    obtain ⟨v, hv, kv⟩ := k x av hx'
    exact ⟨v, hv, VR.mono2 hl ht _ _ kv⟩
  · have np : p.1 ∉ its := hown _ (by unfold own; exact List.mem_cons_of_mem _ (List.mem_map_of_mem hp))
    have M := R.mus p hp
    cases hmo : p.2 with
    | list xs => rw [hmo] at M; obtain ⟨vs, n, e, r, l⟩ := M; exact ⟨vs, n, hx _ _ np e, VRs.mono2 hl ht _ _ r, l⟩
    | dict fs => rw [hmo] at M; obtain ⟨m', ⟨o, es, ep, e, r'⟩, r, q⟩ := M; exact ⟨m', ⟨o, es, ep, hx _ _ np e, r'⟩, fun y av hy => let ⟨v, hv, k⟩ := r y av hy; ⟨v, hv, VR.mono2 hl ht _ _ k⟩, q⟩
    | cell cv => rw [hmo] at M; cases cv with
      | none => obtain ⟨o, e, r⟩ := M; exact ⟨o, hx _ _ np e, r⟩
      | some av' => obtain ⟨o, e, u, r, k⟩ := M; exact ⟨o, hx _ _ np e, u, r, VR.mono2 hl ht _ _ k⟩
  · obtain ⟨o, e⟩ := R.alive a ha
    exact ⟨o, hx _ _ (hexs a ha) e⟩

noncomputable def Fc.now (C : Fc) (μ : Mu) (h : Heap) : Fc := { C with h₀ := hideAll h (own C μ) }
theorem Rel.now {h : Heap} (R : Rel w C ρ μ h) : Rel w (C.now μ h) ρ μ h where
  ok := ⟨R.ok.base.grow fun b o e => hideAll_get _ (R.keep b o e) (fun q => by rw [R.new b q] at e; cases e), R.ok.kind, R.ok.glob, R.ok.blt⟩
  keep := fun b o e => of_hideAll _ e
  ns := R.ns
  mus := R.mus
  new := fun a ha => hideAll_none _ ha
  nd := R.nd
  dj := R.dj
  alive := R.alive
theorem Rel.back {h h₁ : Heap} {μ' : Mu} {ρ' : Rho} {μ₁ : Mu} (ok : FcOk w C) (hk : Grow C.h₀ h₁) (hn : ∀ a ∈ own C μ₁, C.h₀.get? a = Option.none) (R : Rel w (C.now μ₁ h₁) ρ' μ' h) : Rel w C ρ' μ' h where
  ok := ok
  keep := fun b o e => R.keep b o (hideAll_get _ (hk b o e) fun q => by rw [hn b q] at e; cases e)
  ns := R.ns
  mus := R.mus
  new := fun a ha => by
    cases q : C.h₀.get? a with
    | none => rfl
    | some o =>
      have := R.new a ha
      have e : (hideAll h₁ (own C μ₁)).get? a = some o := hideAll_get _ (hk a o q) fun q' => by rw [hn a q'] at q; cases q
      have e' : (C.now μ₁ h₁).h₀.get? a = some o := e
      rw [this] at e'; cases e'
  nd := R.nd
  dj := R.dj
  alive := R.alive

structure Nx (w : World) (C : Fc) (its : List Addr) (it : Addr) (J : Nat → (Addr → Option Obj) → Prop) (xs : List AV) : Prop where
  mono : ∀ i F F', J i F → (∀ a o, F a = some o → F' a = some o) → J i F'
  has : ∀ i F, J i F → ∀ a ∈ its, ∃ o, F a = some o ∧ (∀ vs n, o ≠ listObj vs n) ∧ ∀ vs n, o ≠ tupObj vs n
  next : ∀ (i : Nat) (A : Around) (s : Shared) (ex : List Addr) (Q : Option Value → Shared → Prop) (E : Value → Shared → Prop), A.handled = Option.none → 1 ≤ s.toks → J i (fz ex s.heap) →
    (∀ x v h' tk, xs[i]? = some x → (∀ b o, b ∉ its → s.heap.get? b = some o → h'.get? b = some o) → J (i + 1) (fz ex h') → VR (fz ex h') x v → Q (some v) { s with heap := h', toks := tk }) →
    (∀ h' tk, xs[i]? = Option.none → (∀ b o, b ∉ its → s.heap.get? b = some o → h'.get? b = some o) → Q Option.none { s with heap := h', toks := tk }) →
    wpAny (model PR w) A (pyNext (.ref it)) Q E s

noncomputable def Turn (I : Nat → Rho → Mu → Prop) (P : Out → Prop) (i : Nat) (o : Out) : Prop := match o with
  | .next ρ' μ' => I (i + 1) ρ' μ'
  | .cont ρ' μ' => I (i + 1) ρ' μ'
  | .brk ρ' μ' => P (.next ρ' μ')
  | .ret av ρ' μ' => P (.ret av ρ' μ')

noncomputable def AsgTo (w : World) (C : Fc) (tgt : PySem.Expr) (x : AV) (f : Rho → Rho) : Prop :=
  ∀ (ρ : Rho) (μ : Mu) (A : Around) (s : Shared) (v : Value) (Q : Unit → Shared → Prop) (E : Value → Shared → Prop), Room C.d A → 1 ≤ s.toks → Rel w C ρ μ s.heap → VR (fz (exs C μ) s.heap) x v →
    (∀ h' tk, Rel w C (f ρ) μ h' → (∀ b o, b ∉ own C μ → s.heap.get? b = some o → h'.get? b = some o) → Q () { s with heap := h', toks := tk }) → wpAny (model PR w) A (assign tgt C.env v) Q E s
theorem AsgTo.name {x : Str} {p : Pos} {av : AV} (hk : C.env.kindOf x = some .local) : AsgTo w C (.Name x p) av (fun ρ => put ρ x av) := by
  intro ρ μ A s v Q E hr h1 R hv hQ
  refine wpAny_assign_Name ?_
  obtain ⟨m, hm, hro⟩ := R.ns
  refine wpAny_storeName_local hk hm (fun h' hn hs => hQ h' _ (R.store hv hm hro hn hs) fun b o hb e => (hs.2 b (fun q => hb (by rw [q]; unfold own; simp))).trans e) ?_
  rw [R.ok.kind]; rfl

theorem for_code {tgt : PySem.Expr} {body : List Stmt} {its : List Addr} {it : Addr} {J : Nat → (Addr → Option Obj) → Prop} {xs : List AV} {I : Nat → Rho → Mu → Prop} {P : Out → Prop} {f : AV → Rho → Rho}
    (N : Nx w C its it J xs) (ha : ∀ (h₀ : Heap) (i : Nat) (x : AV), xs[i]? = some x → AsgTo w { C with h₀ := h₀ } tgt x (f x))
    (hb : ∀ (h₀ : Heap) (i : Nat) (x : AV) ρ' μ', xs[i]? = some x → I i ρ' μ' → ExTo w { C with h₀ := h₀ } (f x ρ') μ' body (Turn I P i))
    (hend : ∀ ρ' μ', I xs.length ρ' μ' → P (.next ρ' μ')) (hlt : ∀ v, letOwnedTupleGo tgt (.ref it) v = pure ())
    {A : Around} {s : Shared} {ρ : Rho} {μ : Mu} {Q : Flow → Shared → Prop} {E : Value → Shared → Prop} (hr : Room C.d A) (h1 : 1 ≤ s.toks) (R : Rel w C ρ μ s.heap) (h0 : I 0 ρ μ) (hJ : J 0 (fz (exs C μ) s.heap)) (hits : ∀ a ∈ its, C.h₀.get? a = Option.none)
    (hQ : ∀ fl o h' tk, 1 ≤ tk → P o → FRel w C fl o h' → Q fl { s with heap := h', toks := tk }) :
    codeAny (model PR w) A (.forLoop tgt (.ref it) body [] C.env) (fun r s' => match r with | .ok f => Q f s' | .error e => cameBackBy (model PR w) A C.env E e s') s := by
  refine codeAny_forLoop (fun n s' => ∃ i ρ' μ' h' tk, s' = { s with heap := h', toks := tk } ∧ n = xs.length - i ∧ i ≤ xs.length ∧ 1 ≤ tk ∧ I i ρ' μ' ∧ Rel w C ρ' μ' h' ∧ J i (fz (exs C μ') h')) ?_ xs.length ⟨0, ρ, μ, s.heap, s.toks, rfl, rfl, Nat.zero_le _, h1, h0, R, hJ⟩ hlt
  rintro n s' ⟨i, ρ', μ', h', tk, rfl, rfl, hi, h1', hI, R', hJ'⟩
  have hn : ∀ a ∈ its, a ∉ exs C μ' ∧ C.h₀.get? a = Option.none ∧ NoSeq h' a := fun a hm => by
    obtain ⟨o, e, n1, n2⟩ := N.has i _ hJ' a hm
    refine ⟨fz_not e, hits a hm, fun vs n q => ?_, fun vs n q => ?_⟩
    · rw [fz_get e] at q; exact n1 vs n (Option.some.inj q)
    · rw [fz_get e] at q; exact n2 vs n (Option.some.inj q)
  refine tok1 h1' (N.next i A _ (exs C μ') _ _ hr.2.2 h1' hJ' (fun x v h'' tk' hx hg hJ'' kv => ?_) (fun h'' tk' hx hg => ?_))
  · intro h1''
    have R1 : Rel w C ρ' μ' h'' := R'.turn hg hn
    have hlen : i < xs.length := by
      rcases Nat.lt_or_ge i xs.length with q | q
      · exact q
      · rw [List.getElem?_eq_none q] at hx; cases hx
    refine tok1 h1'' (ha (C.now μ' h'').h₀ i x hx ρ' μ' A _ v _ _ hr h1'' R1.now kv fun h3 tk3 R3 hg3 => ?_)
    intro h13
    have R3' : Rel w C (f x ρ') μ' h3 := R3.back R1.ok R1.keep R1.new
    refine hb (C.now μ' h3).h₀ i x ρ' μ' hx hI A _ _ _ hr h13 R3'.now fun fl o h4 tk4 h14 p xo => ?_
    have hJ4 : ∀ μ4 ρ4, Rel w (C.now μ' h3) ρ4 μ4 h4 → J (i + 1) (fz (exs C μ4) h4) := fun μ4 ρ4 R4 => by
      refine N.mono _ _ _ hJ'' fun a o e => ?_
      have e3 : h3.get? a = some o := hg3 a o (fun q => fz_not e (by unfold exs; exact List.mem_append_left _ q)) (fz_get e)
      have e0 : (hideAll h3 (own C μ')).get? a = some o := hideAll_get _ e3 fun q => fz_not e (by unfold exs; exact List.mem_append_left _ q)
      refine fz_of (fun q => ?_) (R4.keep a o e0)
      unfold exs at q
      rcases List.mem_append.mp q with q | q
      · have z : (hideAll h3 (own C μ')).get? a = Option.none := R4.new a q
        rw [z] at e0; cases e0
      · exact fz_not e (by unfold exs; exact List.mem_append_right _ q)
    cases o with
    | next ρ4 μ4 =>
      obtain ⟨rfl, R4⟩ := xo
      exact ⟨xs.length - (i + 1), by (first | lia | omega), i + 1, ρ4, μ4, h4, tk4, rfl, rfl, hlen, h14, p, R4.back R3'.ok R3'.keep R3'.new, hJ4 μ4 ρ4 R4⟩
    | cont ρ4 μ4 =>
      obtain ⟨rfl, R4⟩ := xo
      exact ⟨xs.length - (i + 1), by (first | lia | omega), i + 1, ρ4, μ4, h4, tk4, rfl, rfl, hlen, h14, p, R4.back R3'.ok R3'.keep R3'.new, hJ4 μ4 ρ4 R4⟩
    | brk ρ4 μ4 =>
      obtain ⟨rfl, R4⟩ := xo
      exact hQ _ _ h4 tk4 h14 p ⟨rfl, R4.back R3'.ok R3'.keep R3'.new⟩
    | ret av ρ4 μ4 =>
      obtain ⟨v', rfl, R4, k4⟩ := xo
      exact hQ _ _ h4 tk4 h14 p ⟨v', rfl, R4.back R3'.ok R3'.keep R3'.new, k4⟩
  · intro h1''
    have hlen : i = xs.length := by
      rcases Nat.lt_or_ge i xs.length with q | q
      · rw [List.getElem?_eq_getElem q] at hx; cases hx
      · (first | lia | omega)
    subst hlen
    exact wpAny_execs_nil (hQ _ _ h'' tk' h1'' (hend _ _ hI) ⟨rfl, R'.turn hg hn⟩)
end
end Mine
end

section
open PySem PySem.W PyProof.Rows
set_option Elab.async false
set_option maxRecDepth 100000
set_option linter.all false
namespace Mine
section
variable {w : World} {C : Fc} {ρ : Rho} {μ : Mu}

noncomputable def ItObj (F : Addr → Option Obj) (it : Addr) (T : String) (vs : Array Value) : Prop := ∃ o, F it = some o ∧ o.cls = .type T ∧ o.data = .fields vs
theorem ItObj.noSeq {F : Addr → Option Obj} {it : Addr} {T : String} {fs : Array Value} (h : ItObj F it T fs) : ∃ o, F it = some o ∧ (∀ vs n, o ≠ listObj vs n) ∧ ∀ vs n, o ≠ tupObj vs n := by
  obtain ⟨o, e, _, d⟩ := h
  refine ⟨o, e, fun vs n q => ?_, fun vs n q => ?_⟩ <;> (subst q; cases d)

noncomputable def SeqJ (T U : String) (it l : Addr) (xs : List AV) (i : Nat) (F : Addr → Option Obj) : Prop :=
  ItObj F it U #[.ref l, .int i 0] ∧ ∃ vs n, F l = some ({ cls := .type T, data := .seq vs.toArray n } : Obj) ∧ VRs F xs vs
theorem seqJ_mono {T U : String} {it l : Addr} {xs : List AV} (i : Nat) (F F' : Addr → Option Obj) (h : SeqJ T U it l xs i F) (g : ∀ a o, F a = some o → F' a = some o) : SeqJ T U it l xs i F' := by
  obtain ⟨⟨o, e, r⟩, vs, n, e', k⟩ := h
  exact ⟨⟨o, g _ _ e, r⟩, vs, n, g _ _ e', VRs.mono g _ _ k⟩
theorem seqJ_step {T U : String} {it l : Addr} {xs : List AV} {i : Nat} {ex : List Addr} {h h' : Heap} (hJ : SeqJ T U it l xs i (fz ex h)) (hs : Heap.SameBut it h h') (hit : ∃ o, h'.get? it = some o ∧ o.cls = .type U ∧ o.data = .fields #[.ref l, .int (i + 1 : Nat) 0]) :
    SeqJ T U it l xs (i + 1) (fz ex h') ∧ (∀ av v, VR (fz ex h) av v → VR (fz ex h') av v) := by
  have ns := hJ.1.noSeq
  obtain ⟨⟨o, e, _, d⟩, vs, n, e', k⟩ := hJ
  obtain ⟨o1, e1, n1, n2⟩ := ns
  have hli : l ≠ it := fun q => by
    subst q
    rw [e'] at e; cases e; cases d
  have hl : ∀ a vs n, fz ex h a = some (listObj vs n) → fz ex h' a = some (listObj vs n) := fun a vs n q =>
    fz_of (fz_not q) ((hs.2 a (fun z => by subst z; rw [e1] at q; exact n1 vs n (Option.some.inj q))).trans (fz_get q))
  have ht : ∀ a vs n, fz ex h a = some (tupObj vs n) → fz ex h' a = some (tupObj vs n) := fun a vs n q =>
    fz_of (fz_not q) ((hs.2 a (fun z => by subst z; rw [e1] at q; exact n2 vs n (Option.some.inj q))).trans (fz_get q))
  obtain ⟨o2, e2, c2, d2⟩ := hit
  exact ⟨⟨⟨o2, fz_of (fz_not e) e2, c2, d2⟩, vs, n, fz_of (fz_not e') ((hs.2 l hli).trans (fz_get e')), VRs.mono2 hl ht _ _ k⟩, fun av v x => VR.mono2 hl ht _ _ x⟩

theorem nx_list {it l : Addr} {xs : List AV} : Nx w C [it] it (SeqJ "list" "list_iterator" it l xs) xs where
  mono := seqJ_mono
  has := fun i F h a ha => by rw [List.mem_singleton] at ha; subst ha; exact h.1.noSeq
  next := fun i A s ex Q E hh h1 hJ hit hend => by
    have hJ' := hJ
    obtain ⟨⟨o, e, c, d⟩, vs, n, e', k⟩ := hJ
    have hI : s.heap.IsListIter it l i := ⟨o, fz_get e, c, d⟩
    have hL : s.heap.IsList l vs.toArray := ⟨_, fz_get e', rfl, n, rfl⟩
    cases hx : xs[i]? with
    | none =>
      refine wpAny_pyNext_list_end hh hI hL (by simp; have := k.length; have := List.getElem?_eq_none_iff.mp hx; (first | lia | omega)) fun h' hb => hend h' s.toks hx fun b o hb' e => hb b o (by simpa using hb') e
    | some x =>
      obtain ⟨v, hv, kv⟩ := k.get hx
      refine wpAny_pyNext_list_item hI hL (by simpa using hv) fun h' hI' hs => ?_
      obtain ⟨J', mono⟩ := seqJ_step hJ' hs hI'
      exact hit x v h' s.toks hx (fun b o hb e => (hs.2 b (by simpa using hb)).trans e) J' (mono _ _ kv)
theorem nx_tup {it l : Addr} {xs : List AV} : Nx w C [it] it (SeqJ "tuple" "tuple_iterator" it l xs) xs where
  mono := seqJ_mono
  has := fun i F h a ha => by rw [List.mem_singleton] at ha; subst ha; exact h.1.noSeq
  next := fun i A s ex Q E hh h1 hJ hit hend => by
    have hJ' := hJ
    obtain ⟨⟨o, e, c, d⟩, vs, n, e', k⟩ := hJ
    have hI : s.heap.IsTupleIter it l i := ⟨o, fz_get e, c, d⟩
    have hL : s.heap.IsTuple l vs.toArray := ⟨_, fz_get e', rfl, n, rfl⟩
    cases hx : xs[i]? with
    | none =>
      refine wpAny_pyNext_tuple_end hh hI hL (by simp; have := k.length; have := List.getElem?_eq_none_iff.mp hx; (first | lia | omega)) fun h' hb => hend h' s.toks hx fun b o hb' e => hb b o (by simpa using hb') e
    | some x =>
      obtain ⟨v, hv, kv⟩ := k.get hx
      refine wpAny_pyNext_tuple_item hI hL (by simpa using hv) fun h' hI' hs => ?_
      obtain ⟨J', mono⟩ := seqJ_step hJ' hs hI'
      exact hit x v h' s.toks hx (fun b o hb e => (hs.2 b (by simpa using hb)).trans e) J' (mono _ _ kv)

theorem X1To.forl {x : Str} {xp p : Pos} {iter : PySem.Expr} {body : List Stmt} {xs : List AV} {P : Out → Prop} (I : Nat → Rho → Mu → Prop) (hi : EvTo w C ρ μ iter (.list xs)) (h0 : I 0 ρ μ)
    (hb : ∀ (h₀ : Heap) (i : Nat) (v : AV) ρ' μ', xs[i]? = some v → I i ρ' μ' → ExTo w { C with h₀ := h₀ } (put ρ' x v) μ' body (Turn I P i))
    (hend : ∀ ρ' μ', I xs.length ρ' μ' → P (.next ρ' μ')) (hk : C.env.kindOf x = some .local := by rfl) (hs : ∀ x, foldedSetIterable iter C.env x = pure x := by intro _; rfl) :
    X1To w C ρ μ (.For (.Name x xp) iter body [] p) P :=
  fun A s Q E hr h1 R hQ => wpAny_For (hi A s _ _ hr h1 R fun v h' tk h1' g k => by
    obtain ⟨l, vs, n, rfl, e, kv, hl⟩ := vr_list k
    have R' := R.grow g
    refine wpAny_pyIter_list (items := vs.toArray) ⟨_, fz_get e, rfl, n, rfl⟩ ?_
    have gp := Grow.push h' { cls := .type "list_iterator", data := .fields #[.ref l, .int 0 0] }
    have nit : h'.objs.size ∉ exs C μ := fun q => by obtain ⟨o, z⟩ := R'.alive _ q; exact absurd (Heap.lt_size z) (Nat.lt_irrefl _)
    refine for_code nx_list (f := fun v ρ => put ρ x v) (fun h₀ i v _ => AsgTo.name hk) hb hend (fun _ => rfl) hr h1' (R'.grow gp) h0 ⟨⟨_, fz_of nit (Heap.get?_push_size _ rfl), rfl, rfl⟩, vs, n, gp.fz _ _ _ e, kv.grow gp⟩ ?_ hQ
    intro a ha
    rw [List.mem_singleton] at ha; subst ha
    cases q : C.h₀.get? h'.objs.size with
    | none => rfl
    | some o => exact absurd (Heap.lt_size (R'.keep _ _ q)) (Nat.lt_irrefl _)) hs
theorem X1To.fort {x : Str} {xp p : Pos} {iter : PySem.Expr} {body : List Stmt} {xs : List AV} {P : Out → Prop} (I : Nat → Rho → Mu → Prop) (hi : EvTo w C ρ μ iter (.tup xs)) (h0 : I 0 ρ μ)
    (hb : ∀ (h₀ : Heap) (i : Nat) (v : AV) ρ' μ', xs[i]? = some v → I i ρ' μ' → ExTo w { C with h₀ := h₀ } (put ρ' x v) μ' body (Turn I P i))
    (hend : ∀ ρ' μ', I xs.length ρ' μ' → P (.next ρ' μ')) (hk : C.env.kindOf x = some .local := by rfl) (hs : ∀ x, foldedSetIterable iter C.env x = pure x := by intro _; rfl) :
    X1To w C ρ μ (.For (.Name x xp) iter body [] p) P :=
  fun A s Q E hr h1 R hQ => wpAny_For (hi A s _ _ hr h1 R fun v h' tk h1' g k => by
    obtain ⟨l, vs, n, rfl, e, kv, hl⟩ := vr_tup k
    have R' := R.grow g
    refine wpAny_pyIter_tuple (items := vs.toArray) ⟨_, fz_get e, rfl, n, rfl⟩ ?_
    have gp := Grow.push h' { cls := .type "tuple_iterator", data := .fields #[.ref l, .int 0 0] }
    have nit : h'.objs.size ∉ exs C μ := fun q => by obtain ⟨o, z⟩ := R'.alive _ q; exact absurd (Heap.lt_size z) (Nat.lt_irrefl _)
    refine for_code nx_tup (f := fun v ρ => put ρ x v) (fun h₀ i v _ => AsgTo.name hk) hb hend (fun _ => rfl) hr h1' (R'.grow gp) h0 ⟨⟨_, fz_of nit (Heap.get?_push_size _ rfl), rfl, rfl⟩, vs, n, gp.fz _ _ _ e, kv.grow gp⟩ ?_ hQ
    intro a ha
    rw [List.mem_singleton] at ha; subst ha
    cases q : C.h₀.get? h'.objs.size with
    | none => rfl
    | some o => exact absurd (Heap.lt_size (R'.keep _ _ q)) (Nat.lt_irrefl _)) hs
end
end Mine
end

section
open PySem PySem.W PyProof.Rows
set_option Elab.async false
set_option maxRecDepth 100000
set_option linter.all false
namespace Mine

noncomputable def BindTo (w : World) (fd : FuncData) (args : List AV) (kw : List (Str × Value)) (ρ : Rho) : Prop :=
  ∀ (A : Around) (s : Shared) (ex : List Addr) (vs : List Value) (Q : List (Str × Value) → Shared → Prop) (E : Value → Shared → Prop), Base w s.heap → (∀ a ∈ ex, ∃ o, s.heap.get? a = some o) → VRs (fz ex s.heap) args vs →
    (∀ binds h' tk, Grow s.heap h' → (∀ x av, ρ.lookup x = some av → ∃ v, binds.reverse.lookup x = some v ∧ VR (fz ex h') av v) → (∀ y ∈ binds, fd.scope.names.lookup y.1 = some .local) → Q binds { s with heap := h', toks := tk }) →
    wpAny (model PR w) A (bindArgs fd ⟨vs, kw⟩) Q E s

theorem BindTo.plain {w : World} {fd : FuncData} {args : List AV} {names : List Str} (hbind : ∀ vs : List Value, vs.length = args.length → bindArgs fd ⟨vs, []⟩ = pure (names.zip vs)) (hnd : names.Nodup) (hloc : ∀ x ∈ names, fd.scope.names.lookup x = some .local) :
    BindTo w fd args [] (names.zip args) := by
  intro A s ex vs Q E B hex hvs hQ
  rw [hbind vs hvs.length]
  refine wpAny_pure (hQ _ s.heap s.toks (Grow.refl _) (fun x av e => ?_) fun y hy => hloc _ (List.of_mem_zip hy).1)
  obtain ⟨v, hv, k⟩ := zip_vrs (names := names) hvs x av e
  exact ⟨v, (zip_reverse_lookup hnd x).trans hv, k⟩
theorem BindTo.rest {w : World} {fd : FuncData} {a : AV} {r : List AV} {x y : Str} (hxy : x ≠ y) (hbind : ∀ (v : Value) (vs : List Value), bindArgs fd ⟨v :: vs, []⟩ = (do let t ← newTuple vs; return [(x, v), (y, t)]))
    (hx : fd.scope.names.lookup x = some .local) (hy : fd.scope.names.lookup y = some .local) (hl : r.length ≤ LIM) : BindTo w fd (a :: r) [] [(x, a), (y, .tup r)] := by
  intro A s ex vs Q E B hex hvs hQ
  unfold VRs at hvs
  obtain ⟨v, us, rfl, k, ks⟩ := hvs
  rw [hbind v us]
  refine wpAny_bind (wpAny_newObj_type ?_ (by show us.toArray.size ≤ sizeLine; rw [List.size_toArray, ks.length]; exact lim_size hl))
  have g := Grow.push s.heap (tupObj us 0)
  refine wpAny_pure (hQ _ _ s.toks g (fun z av e => ?_) fun z hz => ?_)
  · have hb : (y == x) = false := beq_eq_false_iff_ne.mpr (Ne.symm hxy)
    rw [List.lookup_cons] at e
    by_cases hz : z = x
    · subst hz
      simp at e; subst e
      refine ⟨v, ?_, k.grow g⟩
      have hb' : (z == y) = false := beq_eq_false_iff_ne.mpr hxy
      simp [List.lookup, hb']
    · have hz' : (z == x) = false := beq_eq_false_iff_ne.mpr hz
      rw [hz'] at e
      simp only [List.lookup] at e
      by_cases hzy : z = y
      · subst hzy
        simp at e; subst e
        refine ⟨.ref s.heap.objs.size, by simp [List.lookup], vr_tup' (n := 0) (fz_of ?_ (Heap.get?_push_size _ rfl)) (ks.grow g) hl⟩
        intro q
        obtain ⟨o, e⟩ := hex _ q
        exact absurd (Heap.lt_size e) (Nat.lt_irrefl _)
      · have : (z == y) = false := beq_eq_false_iff_ne.mpr hzy
        rw [this] at e; cases e
  · simp at hz
    rcases hz with rfl | rfl
    · exact hx
    · exact hy

theorem enterB {w : World} {d : Nat} {f : Addr} {name qual : Str} {params : Arguments} {body : List Stmt} {scope : Scope} {dV kV doc pm cdv ct oc : Value} {an od : Option Addr} {osl : Array (Option Value)} {args : List AV} {r : AV} {ρ : Rho}
    (ho : (KF w).lookup f = some ⟨oc, od, .func (fnOf name qual params body scope dV kV doc pm an cdv ct), osl⟩) (hcd : codeIn (KF w) cdv qual = true)
    (hb : BindTo w (fnOf name qual params body scope dV kV doc pm an cdv ct) args [] ρ)
    (h : ∀ (h₀ : Heap) (L : Addr) (ex : List Addr), ExTo w ⟨h₀, envOf qual scope L f cdv, ex, d⟩ ρ [] body (Back w ⟨h₀, envOf qual scope L f cdv, ex, d⟩ r))
    (hco : scope.isCoroutine = false) (hgen : scope.isGenerator = false) (hk : scope.kind = .function) (hcell : ∀ x ∈ scope.names, x.2 ≠ .cell) : CallsTo w (d + 1) (.ref f) args r := by
  intro A s ex vs Q E hroom h1 B hex hvs hQ
  obtain ⟨_, _, _, mg, mb, T⟩ := B.top
  refine wpAny_call ?_
  refine codeAny_call_function (fd := fnOf name qual params body scope dV kV doc pm an cdv ct) (by have := hroom.1.1; (first | lia | omega)) (B.kin _ _ ho) rfl hco hgen rfl (codeRec_of B.kin hcd) ?_
  refine tok1 h1 (hb _ _ ex vs _ _ B hex hvs fun binds h₁ tk₁ g₁ hbr hbl => ?_)
  intro h11
  refine wpAny_newFunctionEnv hcell hbl (fun h₂ hns hsb => ?_) hk
  have g2 : Grow h₁ h₂ := fun b o e => hsb.extBut b o (Nat.ne_of_lt (Heap.lt_size e)) (Heap.get?_push_of_some _ e)
  refine ⟨T.nolimit.keeps (g₁.trans g2), codeAny_func ?_⟩
  have hnew : h₁.get? h₁.objs.size = none := get?_size_none _
  have R : Rel w ⟨h₁, envOf qual scope h₁.objs.size f cdv, ex, d⟩ ρ [] h₂ := by
    refine ⟨⟨B.grow g₁, hk, rfl, rfl⟩, g2, ⟨_, hns, ?_⟩, fun p hp => by simp at hp, ?_, by simp [own], ?_, ?_⟩
    · intro x av e
      obtain ⟨v, hv, k⟩ := hbr x av e
      exact ⟨v, hv, k.more hnew g2⟩
    · intro a ha
      simp only [own, List.map_nil, List.mem_cons, List.not_mem_nil, or_false] at ha
      rw [ha]; exact hnew
    · intro a ha q
      simp only [own, List.map_nil, List.mem_cons, List.not_mem_nil, or_false] at ha
      obtain ⟨o, e⟩ := hex a q
      rw [ha] at e
      have e' : h₁.get? h₁.objs.size = some o := g₁ _ _ e
      rw [hnew] at e'; cases e'
    · intro a ha
      simp only [exs, own, List.map_nil, List.cons_append, List.nil_append, List.mem_cons] at ha
      rcases ha with rfl | ha
      · obtain ⟨o, _, _, e, _⟩ := hns; exact ⟨o, e⟩
      · obtain ⟨o, e⟩ := hex a ha; exact ⟨o, g2 _ _ (g₁ _ _ e)⟩
  refine h h₁ h₁.objs.size ex (A.deeper (callEnv (fnOf name qual params body scope dV kV doc pm an cdv ct) h₁.objs.size f)) _ _ _ ⟨⟨?_, ?_⟩, ?_, hroom.2.2⟩ ?_ R fun fl o h' tk h1' p x => ?_
  · have := hroom.1.1
    show A.depth + 1 + d + 120 < recursionLimit
    (first | lia | omega)
  · obtain ⟨env, l, hf, _⟩ := hroom.1.2
    exact ⟨_, _, Around.frames_deeper hf, hgen, hco, rfl, rfl⟩
  · have := hroom.2.1
    show A.units + 3 + 10 * d + 100 < cLine
    (first | lia | omega)
  · show 1 ≤ tk₁ + _
    have : 1 ≤ tk₁ := h11
    (first | lia | omega)
  · cases o with
    | next ρ' μ' =>
      obtain ⟨rfl, R'⟩ := x
      have e : r = .none := p
      subst e
      exact hQ _ h' tk h1' (g₁.trans R'.keep) vr_none'
    | brk ρ' μ' => exact p.elim
    | cont ρ' μ' => exact p.elim
    | ret av ρ' μ' =>
      obtain ⟨v, rfl, R', k⟩ := x
      exact hQ _ h' tk h1' (g₁.trans R'.keep) (p h' v R' k)

section
variable {w : World} {C : Fc} {ρ : Rho} {μ : Mu} {P : Out → Prop}
theorem X1To.try {body : List Stmt} {h₀ : ExceptHandler} {hs : List ExceptHandler} {p : Pos} (h : ExTo w C ρ μ body P) : X1To w C ρ μ (.Try body (h₀ :: hs) [] [] p) P :=
  fun A s Q E hr h1 R hQ => wpAny_Try_except (h A s _ _ hr h1 R fun fl o h' tk h1' p x => by
    have := hQ fl o h' tk h1' p x
    cases fl with
    | next => exact wpAny_execs_nil this
    | brk => exact this
    | cont => exact this
    | ret v => exact this)
end
end Mine
end

section
open PySem PySem.W PyProof.Rows
set_option Elab.async false
set_option maxRecDepth 100000
set_option linter.all false
namespace Mine
theorem put_same {ρ : Rho} {x : Str} {av : AV} : (put ρ x av).lookup x = some av := by rw [put_lookup, if_pos rfl]
theorem put_other {ρ : Rho} {x y : Str} {av : AV} {r : Option AV} (h : y ≠ x) (k : ρ.lookup y = r) : (put ρ x av).lookup y = r := by rw [put_lookup, if_neg h]; exact k
theorem PartTo.non {w : World} {C : Fc} {ρ : Rho} {μ : Mu} : PartTo w C ρ μ Option.none Option.none := trivial
theorem PartTo.som {w : World} {C : Fc} {ρ : Rho} {μ : Mu} {e : PySem.Expr} {i : Int} (h : EvTo w C ρ μ e (.int i)) : PartTo w C ρ μ (some e) (some i) := h
section
variable {w : World} {d : Nat}
theorem call_startswith {x : List Nat} {c : Nat} : CallsTo w d (.builtin "str.startswith") [.str x, .str [c]] (.bool (x.head? == some c)) :=
  CallsTo.leaf fun A s ex vs Q E hroom h1 B hex hvs hQ => by
    obtain ⟨u, v, rfl, e1, e2⟩ := vrs2 hvs
    obtain ⟨⟨t, rfl⟩, _⟩ := vr_str e1
    obtain ⟨⟨t', rfl⟩, _⟩ := vr_str e2
    refine SC.startswith ?_
    have e : Txt.startswith (mk x) (mk [c]) = (x.head? == some c) := by
      unfold Txt.startswith
      rw [StrLaws.subAt_eq, mk_len, mk_len]
      cases x with
      | nil => simp
      | cons a l => (rw [Bool.eq_iff_iff]; simp)
    rw [e]
    exact hQ _ s.heap s.toks (Grow.refl _) vr_bool'
theorem call_endswith {x : List Nat} {c : Nat} : CallsTo w d (.builtin "str.endswith") [.str x, .str [c]] (.bool (x.getLast? == some c)) :=
  CallsTo.leaf fun A s ex vs Q E hroom h1 B hex hvs hQ => by
    obtain ⟨u, v, rfl, e1, e2⟩ := vrs2 hvs
    obtain ⟨⟨t, rfl⟩, _⟩ := vr_str e1
    obtain ⟨⟨t', rfl⟩, _⟩ := vr_str e2
    refine SC.endswith ?_
    have e : Txt.endswith (mk x) (mk [c]) = (x.getLast? == some c) := by
      unfold Txt.endswith
      rw [StrLaws.subAt_eq, mk_len, mk_len]
      rcases List.eq_nil_or_concat x with rfl | ⟨l, a, rfl⟩
      · simp
      · (rw [Bool.eq_iff_iff]; simp)
    rw [e]
    exact hQ _ s.heap s.toks (Grow.refl _) vr_bool'
theorem call_len {x : List Nat} : CallsTo w d (.builtin "len") [.str x] (.int x.length) :=
  CallsTo.leaf fun A s ex vs Q E hroom h1 B hex hvs hQ => by
    obtain ⟨u, rfl, e1⟩ := vrs1 hvs
    obtain ⟨⟨t, rfl⟩, hl⟩ := vr_str e1
    refine P.len_str (by rw [mk_len]; unfold LIM at hl; (first | lia | omega)) ?_
    rw [mk_len]
    exact hQ _ s.heap _ (Grow.refl _) vr_int'
theorem call_startswith' {x y : List Nat} {c : Nat} (h : y = [c]) : CallsTo w d (.builtin "str.startswith") [.str x, .str y] (.bool (x.head? == some c)) := h ▸ call_startswith
theorem call_endswith' {x y : List Nat} {c : Nat} (h : y = [c]) : CallsTo w d (.builtin "str.endswith") [.str x, .str y] (.bool (x.getLast? == some c)) := h ▸ call_endswith
theorem gm_startswith {x : List Nat} {pl : Sem Bool} (A : Around) (s : Shared) (Q : Value × List Value → Shared → Prop) (E : Value → Shared → Prop) (t : Tok) (h : Q (.builtin "str.startswith", [.str (mk x) t]) s) : wpAny (model PR w) A (getMethod (.str (mk x) t) (Str.ofString "startswith") pl) Q E s := GM.startswith h
theorem gm_endswith {x : List Nat} {pl : Sem Bool} (A : Around) (s : Shared) (Q : Value × List Value → Shared → Prop) (E : Value → Shared → Prop) (t : Tok) (h : Q (.builtin "str.endswith", [.str (mk x) t]) s) : wpAny (model PR w) A (getMethod (.str (mk x) t) (Str.ofString "endswith") pl) Q E s := GM.endswith h
theorem gm_join {x : List Nat} {pl : Sem Bool} (A : Around) (s : Shared) (Q : Value × List Value → Shared → Prop) (E : Value → Shared → Prop) (t : Tok) (h : Q (.builtin "str.join", [.str (mk x) t]) s) : wpAny (model PR w) A (getMethod (.str (mk x) t) (Str.ofString "join") pl) Q E s := GM.join h
theorem gm_split {x : List Nat} {pl : Sem Bool} (A : Around) (s : Shared) (Q : Value × List Value → Shared → Prop) (E : Value → Shared → Prop) (t : Tok) (h : Q (.builtin "str.split", [.str (mk x) t]) s) : wpAny (model PR w) A (getMethod (.str (mk x) t) (Str.ofString "split") pl) Q E s := GM.split h
theorem gm_replace {x : List Nat} {pl : Sem Bool} (A : Around) (s : Shared) (Q : Value × List Value → Shared → Prop) (E : Value → Shared → Prop) (t : Tok) (h : Q (.builtin "str.replace", [.str (mk x) t]) s) : wpAny (model PR w) A (getMethod (.str (mk x) t) (Str.ofString "replace") pl) Q E s := GM.replace h
end
end Mine
end

section
open PySem PySem.W PyProof.Rows
set_option Elab.async false
set_option maxRecDepth 100000
set_option linter.all false
namespace Mine
section
variable {w : World} {C : Fc} {ρ : Rho} {μ pre post : Mu} {P : Out → Prop} {a : Addr} {xs : List AV}

theorem Rel.mlist {h : Heap} (R : Rel w C ρ μ h) (hm : (a, MO.list xs) ∈ μ) : ∃ vs n, h.get? a = some (listObj vs n) ∧ VRs (fz (exs C μ) h) xs vs ∧ xs.length ≤ LIM := R.mus _ hm

theorem Rel.mset {h h' : Heap} {xs ys : List AV} {us : List Value} {n : Nat} (R : Rel w C ρ (pre ++ (a, MO.list xs) :: post) h) (hs : Heap.SameBut a h h') (he : h'.get? a = some (listObj us n))
    (hv : VRs (fz (exs C (pre ++ (a, MO.list xs) :: post)) h) ys us) (hl : ys.length ≤ LIM) : Rel w C ρ (pre ++ (a, MO.list ys) :: post) h' := by
  have eo : own C (pre ++ (a, MO.list ys) :: post) = own C (pre ++ (a, MO.list xs) :: post) := by simp [own]
  have ee : exs C (pre ++ (a, MO.list ys) :: post) = exs C (pre ++ (a, MO.list xs) :: post) := by unfold exs; rw [eo]
  have ain : a ∈ own C (pre ++ (a, MO.list xs) :: post) := by simp [own]
  have hF := fz_same (ex := exs C (pre ++ (a, MO.list xs) :: post)) (by unfold exs; exact List.mem_append_left _ ain) hs
  have nd := R.nd
  have hal : C.env.locals ≠ a := fun q => by
    unfold own at nd
    rw [List.nodup_cons] at nd
    exact nd.1 (by rw [q]; simp)
  refine ⟨R.ok, fun b o e => (hs.2 b (fun q => by have := R.new a ain; rw [q, this] at e; cases e)).trans (R.keep b o e), ?_, fun p hp => ?_, by rw [eo]; exact R.new, by rw [eo]; exact nd, by rw [eo]; exact R.dj, fun b hb => ?_⟩
  · obtain ⟨m, hm, r⟩ := R.ns
    rw [ee]
    exact ⟨m, hm.sameBut hs hal, fun x av hx => let ⟨v, hv, k⟩ := r x av hx; ⟨v, hv, VR.mono hF _ _ k⟩⟩
  · rw [ee]
    by_cases q : p.1 = a
    · have : p = (a, MO.list ys) := by
        rcases List.mem_append.mp hp with hp | hp
        · exfalso
          unfold own at nd
          rw [List.nodup_cons] at nd
          have nd2 := nd.2
          rw [List.map_append, List.map_cons, List.nodup_append] at nd2
          exact nd2.2.2 p.1 (List.mem_map_of_mem hp) a (by simp) q
        · rcases List.mem_cons.mp hp with hp | hp
          · exact hp
          · exfalso
            unfold own at nd
            rw [List.nodup_cons] at nd
            have nd2 := nd.2
            rw [List.map_append, List.map_cons, List.nodup_append] at nd2
            have := (List.nodup_cons.mp nd2.2.1).1
            apply this
            have z : p.1 ∈ post.map (·.1) := List.mem_map_of_mem hp
            rw [q] at z
            exact z
      subst this
      exact ⟨us, n, he, VRs.mono hF _ _ hv, hl⟩
    · have hp' : p ∈ pre ++ (a, MO.list xs) :: post := by
        rcases List.mem_append.mp hp with hp | hp
        · exact List.mem_append_left _ hp
        · rcases List.mem_cons.mp hp with hp | hp
          · subst hp; exact absurd rfl q
          · exact List.mem_append_right _ (List.mem_cons_of_mem _ hp)
      have M := R.mus p hp'
      cases hmo : p.2 with
      | list zs => rw [hmo] at M; obtain ⟨vs, n, e, r, l⟩ := M; exact ⟨vs, n, (hs.2 _ q).trans e, VRs.mono hF _ _ r, l⟩
      | dict fs => rw [hmo] at M; obtain ⟨m', e, r, q'⟩ := M; exact ⟨m', e.sameBut hs q, fun y av hy => let ⟨v, hv, k⟩ := r y av hy; ⟨v, hv, VR.mono hF _ _ k⟩, q'⟩
      | cell cv => rw [hmo] at M; cases cv with
        | none => obtain ⟨o, e, r⟩ := M; exact ⟨o, (hs.2 _ q).trans e, r⟩
        | some av' => obtain ⟨o, e, u, r, k⟩ := M; exact ⟨o, (hs.2 _ q).trans e, u, r, VR.mono hF _ _ k⟩
  · rw [ee] at hb
    by_cases q : b = a
    · exact ⟨_, q ▸ he⟩
    · obtain ⟨o, e⟩ := R.alive b hb; exact ⟨o, (hs.2 b q).trans e⟩

theorem ExTo.newl {x : Str} {p' p lp : Pos} {es : List PySem.Expr} {rest : List Stmt} {avs : List AV} (h : ArgsTo w C ρ μ lp es avs) (hl : avs.length ≤ LIM) (k : ∀ a, ExTo w C (put ρ x (.val (.ref a))) ((a, MO.list avs) :: μ) rest P)
    (hk : C.env.kindOf x = some .local := by rfl) (hs : swapsWith (.List es lp) (some (.Name x p')) p.line C.env = pure false := by rfl) : ExTo w C ρ μ (.Assign [.Name x p'] (.List es lp) p :: rest) P :=
  fun A s Q E hr h1 R hQ => wpAny_execs_cons (wpAny_Assign_Name (wpAny_List (h A s _ _ hr h1 R fun vs h' tk h1' g xk => ⟨by rw [xk.length]; exact lim_size hl, by
    have R' := R.grow g
    have gp := Grow.push h' (listObj vs 0)
    have nit : h'.objs.size ∉ exs C μ := fun q => by obtain ⟨o, z⟩ := R'.alive _ q; exact absurd (Heap.lt_size z) (Nat.lt_irrefl _)
    have hnone : h'.get? h'.objs.size = Option.none := get?_size_none _
    have eex : ∀ z, z ∈ exs C ((h'.objs.size, MO.list avs) :: μ) ↔ z ∈ h'.objs.size :: exs C μ := fun z => by simp [exs, own]; constructor <;> rintro (q | q | q | q) <;> simp [q]
    have vm : ∀ av v, VR (fz (exs C μ) h') av v → VR (fz (exs C ((h'.objs.size, MO.list avs) :: μ)) (h'.push (listObj vs 0))) av v := fun av v z => VR.fewer (z.more hnone gp) fun a ha => (eex a).mp ha
    have vms : ∀ av v, VRs (fz (exs C μ) h') av v → VRs (fz (exs C ((h'.objs.size, MO.list avs) :: μ)) (h'.push (listObj vs 0))) av v := fun av v z => VRs.fewer (z.more hnone gp) fun a ha => (eex a).mp ha
    have RN : Rel w C ρ ((h'.objs.size, MO.list avs) :: μ) (h'.push (listObj vs 0)) := by
      refine ⟨R'.ok, R'.keep.trans gp, ?_, ?_, ?_, ?_, ?_, ?_⟩
      · obtain ⟨m, hm, r⟩ := R'.ns
        exact ⟨m, hm.keeps gp, fun x av hx => let ⟨v, hv, k⟩ := r x av hx; ⟨v, hv, vm _ _ k⟩⟩
      · intro p hp
        rcases List.mem_cons.mp hp with rfl | hp
        · exact ⟨vs, 0, Heap.get?_push_size _ rfl, vms _ _ xk, hl⟩
        · have M := R'.mus p hp
          cases hmo : p.2 with
          | list zs => rw [hmo] at M; obtain ⟨vs, n, e, r, l⟩ := M; exact ⟨vs, n, gp _ _ e, vms _ _ r, l⟩
          | dict fs => rw [hmo] at M; obtain ⟨m', e, r, q'⟩ := M; exact ⟨m', e.keeps gp, fun y av hy => let ⟨v, hv, k⟩ := r y av hy; ⟨v, hv, vm _ _ k⟩, q'⟩
          | cell cv => rw [hmo] at M; cases cv with
            | none => obtain ⟨o, e, r⟩ := M; exact ⟨o, gp _ _ e, r⟩
            | some av' => obtain ⟨o, e, u, r, k⟩ := M; exact ⟨o, gp _ _ e, u, r, vm _ _ k⟩
      · intro b hb
        simp only [own, List.map_cons, List.mem_cons] at hb
        rcases hb with rfl | rfl | hb
        · exact R'.new _ (by simp [own])
        · cases q : C.h₀.get? h'.objs.size with
          | none => rfl
          | some o => exact absurd (Heap.lt_size (R'.keep _ _ q)) (Nat.lt_irrefl _)
        · exact R'.new _ (by simp only [own, List.mem_cons]; exact .inr hb)
      · have nd := R'.nd
        unfold own at nd ⊢
        rw [List.map_cons, List.nodup_cons, List.nodup_cons]
        rw [List.nodup_cons] at nd
        refine ⟨fun q => ?_, fun q => ?_, nd.2⟩
        · rcases List.mem_cons.mp q with q | q
          · have q' : C.env.locals = h'.objs.size := q
            exact nit (by rw [← q']; simp [exs, own])
          · exact nd.1 q
        · exact nit (by unfold exs own; exact List.mem_append_left _ (List.mem_cons_of_mem _ q))
      · intro b hb q
        simp only [own, List.map_cons, List.mem_cons] at hb
        rcases hb with rfl | rfl | hb
        · exact R'.dj _ (by simp [own]) q
        · exact nit (by unfold exs; exact List.mem_append_right _ q)
        · exact R'.dj _ (by simp only [own, List.mem_cons]; exact .inr hb) q
      · intro b hb
        rcases List.mem_cons.mp ((eex b).mp hb) with rfl | hb
        · exact ⟨_, Heap.get?_push_size _ rfl⟩
        · obtain ⟨o, e⟩ := R'.alive b hb; exact ⟨o, gp _ _ e⟩
    refine tok1 h1' (store_local RN (av := .val (.ref h'.objs.size)) vr_val' hk fun h3 tk3 R3 => fun h13 => ?_)
    exact k h'.objs.size A _ Q E hr h13 R3 hQ⟩)) hs)

theorem X1To.append {x : Str} {xp ap p q : Pos} {e : PySem.Expr} {av : AV} {pl : Sem Bool} (hx : ρ.lookup x = some (.val (.ref a))) (he : EvTo w C ρ (pre ++ (a, MO.list xs) :: post) e av) (hl : xs.length + 1 ≤ LIM)
    (hE : eval (.Call (.Attribute (.Name x xp) (Str.ofString "append") ap) [e] [] p) C.env = (do
      let ov ← eval (.Name x xp) C.env
      standAt ap.atName
      let (f, first) ← holding [ov] (getMethod ov (Str.ofString "append") pl)
      callWith p f first (backTo p (starEach [e] C.env)) []) := by rfl)
    (hk : C.env.kindOf x = some .local := by rfl) (hd : (x == ("__debug__" : Str)) = false := by decide) (hst : starEach [e] C.env = (false, eval e C.env) :: starEach [] C.env := by rfl)
    (hi : interactive C.env = false := by rfl) (hs : swapsWith (.Call (.Attribute (.Name x xp) (Str.ofString "append") ap) [e] [] p) Option.none q.line C.env = pure false := by rfl) :
    X1To w C ρ (pre ++ (a, MO.list xs) :: post) (.Expr (.Call (.Attribute (.Name x xp) (Str.ofString "append") ap) [e] [] p) q) (· = .next ρ (pre ++ (a, MO.list (xs ++ [av])) :: post)) :=
  fun A s Q E hr h1 R hQ => wpAny_Expr_any (MethodCall_ (EvTo.name hx hk hd A s _ _ hr h1 R fun v h' tk h1' g k => by
    obtain rfl := vr_val k
    have R' := R.grow g
    obtain ⟨vs, n, ea, kv, hl'⟩ := R'.mlist (a := a) (xs := xs) (by simp)
    refine getMethod_builtin ⟨_, ea, rfl⟩ PySem.F.plainAttrs_list PySem.F.slot_list_append PySem.F.type_list_append (fun b e => by cases e; exact ⟨_, ea, rfl⟩) ?_
    refine callWith_method1 ?_ hst rfl
    refine wpAny_items_cons (he A _ _ _ hr h1' R' fun v2 h2 tk2 h12 g2 k2 => wpAny_items_nil ?_) hst
    have R2 := R'.grow g2
    refine append_at (D := a) (its := vs.toArray) (n := n) (g2 _ _ ea) (fun h3 hs3 e3 => ?_) (by rw [List.size_toArray, kv.length]; exact lim_size hl')
    refine hQ _ _ h3 tk2 h12 rfl ⟨rfl, R2.mset hs3 (us := vs ++ [v2]) (n := n + 1) (by rw [e3]; simp) ((kv.grow g2).append (VRs.cons k2 VRs.nil)) (by simp; (first | lia | omega))⟩) hE) hi hs

theorem X1To.pop {x : Str} {xp ap p q : Pos} {av : AV} {pl : Sem Bool} (hx : ρ.lookup x = some (.val (.ref a)))
    (hE : eval (.Call (.Attribute (.Name x xp) (Str.ofString "pop") ap) [] [] p) C.env = (do
      let ov ← eval (.Name x xp) C.env
      standAt ap.atName
      let (f, first) ← holding [ov] (getMethod ov (Str.ofString "pop") pl)
      callWith p f first (backTo p (starEach [] C.env)) []) := by rfl)
    (hk : C.env.kindOf x = some .local := by rfl) (hd : (x == ("__debug__" : Str)) = false := by decide)
    (hi : interactive C.env = false := by rfl) (hs : swapsWith (.Call (.Attribute (.Name x xp) (Str.ofString "pop") ap) [] [] p) Option.none q.line C.env = pure false := by rfl) :
    X1To w C ρ (pre ++ (a, MO.list (xs ++ [av])) :: post) (.Expr (.Call (.Attribute (.Name x xp) (Str.ofString "pop") ap) [] [] p) q) (· = .next ρ (pre ++ (a, MO.list xs) :: post)) :=
  fun A s Q E hr h1 R hQ => wpAny_Expr_any (MethodCall_ (EvTo.name hx hk hd A s _ _ hr h1 R fun v h' tk h1' g k => by
    obtain rfl := vr_val k
    have R' := R.grow g
    obtain ⟨vs, n, ea, kv, hl'⟩ := R'.mlist (a := a) (xs := xs ++ [av]) (by simp)
    refine getMethod_builtin ⟨_, ea, rfl⟩ PySem.F.plainAttrs_list PySem.F.slot_list_pop PySem.F.type_list_pop (fun b e => by cases e; exact ⟨_, ea, rfl⟩) ?_
    refine callWith_method0 ?_
    have hlen := kv.length
    rcases List.eq_nil_or_concat vs with rfl | ⟨us, y, rfl⟩
    · simp at hlen
    rw [List.concat_eq_append] at ea kv hlen
    have hk1 : (us ++ [y]).toArray.size - 1 = us.length := by simp
    have hy : (us ++ [y]).toArray[(us ++ [y]).toArray.size - 1]? = some y := by rw [hk1]; simp
    have hz : (us ++ [y]).toArray.size ≤ sizeLine := by rw [List.size_toArray, hlen]; exact lim_size hl'
    refine call_meets PySem.F.slot_list_pop ⟨_, ea, rfl⟩ PySem.F.entry_list_pop (PySem.F.args_list_pop_1 _) (PySem.MeetsSeq.list_pop_last a _ n y hy hz) ⟨ea, ?_⟩
    have hu : VRs (fz (exs C (pre ++ (a, MO.list (xs ++ [av])) :: post)) h') xs us := by
      have := kv.take xs.length
      have e1 : us.length = xs.length := by simpa using hlen
      rw [List.take_left, ← e1, List.take_left] at this
      exact this
    have q := PySem.IsL.update ea (fun its => its.eraseIdxIfInBounds ((us ++ [y]).toArray.size - 1))
    have e2 : ((us ++ [y]).toArray.eraseIdxIfInBounds ((us ++ [y]).toArray.size - 1)) = us.toArray := by
      rw [hk1, kl_erase, List.append_nil]
    have q' : (h'.update a (Obj.mapSeq fun its => its.eraseIdxIfInBounds ((us ++ [y]).toArray.size - 1))).get? a = some (listObj us (n + 1)) := by
      rw [e2, if_neg (by simp)] at q
      exact q
    refine hQ _ _ _ tk h1' rfl ⟨rfl, R'.mset (Heap.SameBut.update ..) (us := us) (n := n + 1) q' hu (by simp at hl'; (first | lia | omega))⟩) hE) hi hs

theorem ExTo.freeze {x : Str} {ss : List Stmt} (hx : ρ.lookup x = some (.val (.ref a))) (h : ExTo w C (put ρ x (.list xs)) μ ss P) : ExTo w C ρ ((a, MO.list xs) :: μ) ss P :=
  fun A s Q E hr h1 R hQ => h A s Q E hr h1 (by
    have sub : ∀ z, z ∈ exs C μ → z ∈ exs C ((a, MO.list xs) :: μ) := fun z hz => by
      simp only [exs, own, List.map_cons, List.cons_append, List.mem_cons, List.mem_append] at hz ⊢
      rcases hz with q | q | q <;> simp [q]
    obtain ⟨vs, n, ea, kv, hl'⟩ := R.mlist (a := a) (xs := xs) (by simp)
    have na : a ∉ exs C μ := fun q => by
      have nd := R.nd
      unfold own at nd
      rw [List.map_cons, List.nodup_cons, List.nodup_cons] at nd
      unfold exs own at q
      rcases List.mem_append.mp q with q | q
      · rcases List.mem_cons.mp q with q | q
        · exact nd.1 (by rw [← q]; simp)
        · exact nd.2.1 q
      · exact R.dj a (by simp [own]) q
    have hfz : VR (fz (exs C μ) s.heap) (.list xs) (.ref a) := vr_list' (fz_of na ea) (kv.fewer sub) hl'
    refine ⟨R.ok, R.keep, ?_, ?_, fun b hb => R.new b (by simp only [own, List.map_cons, List.mem_cons] at hb ⊢; rcases hb with q | q <;> simp [q]), ?_, fun b hb => R.dj b (by simp only [own, List.map_cons, List.mem_cons] at hb ⊢; rcases hb with q | q <;> simp [q]), fun b hb => R.alive b (sub b hb)⟩
    · obtain ⟨m, hm, r⟩ := R.ns
      refine ⟨m, hm, fun y av hy => ?_⟩
      rw [put_lookup] at hy
      by_cases q : y = x
      · rw [if_pos q] at hy; cases hy
        obtain ⟨v, hv, k⟩ := r x _ hx
        rw [vr_val k] at hv
        exact ⟨_, q ▸ hv, hfz⟩
      · rw [if_neg q] at hy
        obtain ⟨v, hv, k⟩ := r y av hy
        exact ⟨v, hv, k.fewer sub⟩
    · intro p hp
      have M := R.mus p (List.mem_cons_of_mem _ hp)
      cases hmo : p.2 with
      | list zs => rw [hmo] at M; obtain ⟨vs, n, e, r, l⟩ := M; exact ⟨vs, n, e, r.fewer sub, l⟩
      | dict fs => rw [hmo] at M; obtain ⟨m', e, r, q'⟩ := M; exact ⟨m', e, fun y av hy => let ⟨v, hv, k⟩ := r y av hy; ⟨v, hv, k.fewer sub⟩, q'⟩
      | cell cv => rw [hmo] at M; cases cv with
        | none => obtain ⟨o, e, r⟩ := M; exact ⟨o, e, r⟩
        | some av' => obtain ⟨o, e, u, r, k⟩ := M; exact ⟨o, e, u, r, k.fewer sub⟩
    · have nd := R.nd
      unfold own at nd ⊢
      rw [List.map_cons, List.nodup_cons, List.nodup_cons] at nd
      rw [List.nodup_cons]
      exact ⟨fun q => nd.1 (List.mem_cons_of_mem _ q), nd.2.2⟩) hQ

theorem op_truthm (hm : (a, MO.list xs) ∈ μ) : OpB w C ρ μ truthy (.val (.ref a)) (!xs.isEmpty) :=
  fun A s Q E u _ _ R hu hQ => by
    obtain rfl := vr_val hu
    obtain ⟨vs, n, ea, kv, hl'⟩ := R.mlist hm
    have := kv.length
    refine wpAny_truthy_list (items := vs.toArray) ⟨_, ea, rfl, n, rfl⟩ (by rw [List.size_toArray, this]; unfold LIM at hl'; (first | lia | omega)) ?_
    have e : (!vs.toArray.isEmpty) = (!xs.isEmpty) := by
      cases vs <;> cases xs <;> simp at this ⊢
    rw [e]
    exact hQ s.heap _ (Grow.refl _)
theorem op_truthl : OpB w C ρ μ truthy (.list xs) (!xs.isEmpty) :=
  fun A s Q E u _ _ R hu hQ => by
    obtain ⟨b, vs, n, rfl, ea, kv, hl'⟩ := vr_list hu
    have := kv.length
    refine wpAny_truthy_list (items := vs.toArray) ⟨_, fz_get ea, rfl, n, rfl⟩ (by rw [List.size_toArray, this]; unfold LIM at hl'; (first | lia | omega)) ?_
    have e : (!vs.toArray.isEmpty) = (!xs.isEmpty) := by
      cases vs <;> cases xs <;> simp at this ⊢
    rw [e]
    exact hQ s.heap _ (Grow.refl _)
end
end Mine
end

section
open PySem PySem.W PyProof.Rows
set_option Elab.async false
set_option maxRecDepth 100000
set_option linter.all false
namespace Mine
section
variable {w : World} {C : Fc} {ρ : Rho} {μ : Mu} {P : Out → Prop}
noncomputable def nms (xs : List (Str × Pos)) : List PySem.Expr := xs.map fun p => .Name p.1 p.2
noncomputable def putAll : Rho → List (Str × Pos) → List AV → Rho
  | ρ, x :: xs, a :: as => putAll (put ρ x.1 a) xs as
  | ρ, _, _ => ρ
theorem asg_names (xs : List (Str × Pos)) {A : Around} {E : Value → Shared → Prop} (hk : ∀ x ∈ xs, C.env.kindOf x.1 = some .local) : ∀ (avs : List AV) (vs : List Value) (ρ : Rho) (s : Shared) (Q : Unit → Shared → Prop), xs.length = avs.length →
    1 ≤ s.toks → Rel w C ρ μ s.heap → VRs (fz (exs C μ) s.heap) avs vs → (∀ h' tk, Rel w C (putAll ρ xs avs) μ h' → (∀ b o, b ∉ own C μ → s.heap.get? b = some o → h'.get? b = some o) → Q () { s with heap := h', toks := tk }) →
    wpAny (model PR w) A (assignInOrder ((assignEach (nms xs) C.env).map (·.2)) vs) Q E s := by
  induction xs with
  | nil =>
    intro avs vs ρ s Q hlen h1 R kv hQ
    have e : avs = [] := List.eq_nil_of_length_eq_zero hlen.symm
    subst e
    unfold VRs at kv; subst kv
    exact wpAny_assignInOrder_none (hQ s.heap s.toks R fun _ _ _ e => e)
  | cons x xs ih =>
    intro avs vs ρ s Q hlen h1 R kv hQ
    cases avs with
    | nil => simp at hlen
    | cons a as =>
    unfold VRs at kv
    obtain ⟨u, us, rfl, k1, k2⟩ := kv
    show wpAny _ _ (assignInOrder (assign (.Name x.1 x.2) C.env :: (assignEach (nms xs) C.env).map (·.2)) (u :: us)) _ _ _
    refine wpAny_assignInOrder_more (wpAny_assign_Name ?_)
    obtain ⟨m, hm, hro⟩ := R.ns
    have hkk : (C.env.scope.kind == .class || (C.env.scope.kind == .module && C.env.locals != C.env.globals)) = false := by rw [R.ok.kind]; rfl
    refine tok1 h1 (wpAny_storeName_local (hk x (by simp)) hm (fun h3 hn hs => fun h13 => ?_) hkk)
    have R3 := R.store k1 hm hro hn hs
    have hL : C.env.locals ∈ exs C μ := by unfold exs own; simp
    refine ih (fun y hy => hk y (by simp [hy])) as us _ _ _ (by simpa using hlen) h13 R3 (VRs.mono (fz_same hL hs) _ _ k2) fun h4 tk4 R4 hb4 => hQ h4 tk4 R4 fun b o hb e => hb4 b o hb ((hs.2 b (fun q => hb (by rw [q]; unfold own; simp))).trans e)
theorem findIdx_names (xs : List (Str × Pos)) (env : Env) : (assignEach (nms xs) env).findIdx? (·.1) = none := by
  rw [List.findIdx?_eq_none_iff]
  intro z hz
  induction xs with
  | nil => cases hz
  | cons x xs ih =>
    have : z ∈ (false, assign (.Name x.1 x.2) env) :: assignEach (nms xs) env := hz
    rcases List.mem_cons.mp this with rfl | h
    · rfl
    · exact ih h
theorem length_names (xs : List (Str × Pos)) (env : Env) : (assignEach (nms xs) env).length = xs.length := by
  induction xs with
  | nil => rfl
  | cons x xs ih => show ((false, assign (.Name x.1 x.2) env) :: assignEach (nms xs) env).length = _; simp [ih]
theorem AsgTo.tup {k : Nat} {p : Pos} {avs : List AV} (xs : List (Str × Pos)) (hk : ∀ x ∈ xs, C.env.kindOf x.1 = some .local) (hl : xs.length = avs.length) :
    AsgTo w C (.Tuple (nms xs) k p) (.tup avs) (fun ρ => putAll ρ xs avs) := by
  intro ρ μ A s v Q E hr h1 R hv hQ
  obtain ⟨t, vs, n, rfl, e, kv, _⟩ := vr_tup hv
  refine tok1 h1 (wpAny_assign_Tuple (items := vs.toArray) hr.2.2 ⟨_, fz_get e, rfl, n, rfl⟩ (by rw [length_names, List.size_toArray, kv.length, hl]) (findIdx_names _ _) fun h' hb => ?_)
  have g : Grow s.heap h' := fun b o e => hb b o (Nat.ne_of_lt (Heap.lt_size e)) e
  exact asg_names xs hk avs vs ρ _ _ hl h1 (R.grow g) (kv.grow g) fun h2 tk2 R2 hb2 => fun h12 => hQ h2 tk2 R2 fun b o hb' e => hb2 b o hb' (g _ _ e)
theorem X1To.unpack {k : Nat} {tp p : Pos} {e : PySem.Expr} {avs : List AV} (xs : List (Str × Pos)) (h : EvTo w C ρ μ e (.tup avs)) (hk : (xs.all fun x => decide (C.env.kindOf x.1 = some .local)) = true) (hl : xs.length = avs.length)
    (hs : swapsWithSole [.Tuple (nms xs) k tp] e p.line C.env = pure false := by rfl) (hw : swappedStores [.Tuple (nms xs) k tp] e C.env = pure Option.none := by rfl) : X1To w C ρ μ (.Assign [.Tuple (nms xs) k tp] e p) (· = .next (putAll ρ xs avs) μ) :=
  fun A s Q E hr h1 R hQ => Assign_Tuple (h A s _ _ hr h1 R fun v h' tk h1' g kv => tok1 h1' (AsgTo.tup xs (fun x hx => of_decide_eq_true (List.all_eq_true.mp hk x hx)) hl ρ μ A _ v _ _ hr h1' (R.grow g) kv fun h2 tk2 R2 _ => fun h12 => hQ _ _ h2 tk2 h12 rfl ⟨rfl, R2⟩)) hs hw

theorem EvTo.neg {e : PySem.Expr} {p : Pos} {i : Int} (h : EvTo w C ρ μ e (.int i)) : EvTo w C ρ μ (.UnaryOp .USub e p) (.int (-i)) :=
  fun A s Q E hr h1 R hQ => tok1 h1 (wpAny_UnaryOp (h A s _ _ hr h1 R fun v h' tk h1' g k => by
    obtain ⟨t, rfl⟩ := vr_int k
    exact neg_int fun h12 => hQ _ h' _ h12 g vr_int'))
theorem EvTo.lastm {v i : PySem.Expr} {p : Pos} {a : Addr} {xs : List AV} {x : AV} (hv : EvTo w C ρ μ v (.val (.ref a))) (hm : (a, MO.list xs) ∈ μ) (hi : EvTo w C ρ μ i (.int (-1))) (hx : xs.getLast? = some x)
    (hs : ∀ o j, subscripted i false o j = operate [o, j] (getItem o j) := by intro _ _; rfl) : EvTo w C ρ μ (.Subscript v i p) x :=
  fun A s Q E hr h1 R hQ => tok1 h1 (Subscript_ (hv A s _ _ hr h1 R fun v1 h' tk h1' g k => hi A _ _ _ hr h1' (R.grow g) fun v2 h2 tk2 h12 g2 k2 => by
    obtain rfl := vr_val k
    obtain ⟨t, rfl⟩ := vr_int k2
    obtain ⟨vs, n, ea, kv, hl'⟩ := ((R.grow g).grow g2).mlist hm
    have hl : Heap.IsList h2 a vs.toArray := ⟨_, ea, rfl, n, rfl⟩
    have hlen := kv.length
    have hne : xs ≠ [] := fun q => by subst q; simp at hx
    have hpos : 0 < xs.length := List.length_pos_iff.mpr hne
    have hx' : xs[xs.length - 1]? = some x := by rw [← List.getLast?_eq_getElem?]; exact hx
    obtain ⟨u, hu, ku⟩ := kv.get hx'
    refine tail_any (ops := [.ref a, .int (-1) t]) hl.typeIs slot_list_getitem.lookup (wpAny_getItem_list_neg hl (by decide) (by simp; (first | lia | omega)) (by decide) (x := u) ?_ ?_) (hs _ _)
    · have e : ((-1 : Int) + (vs.toArray.size : Nat)).toNat = xs.length - 1 := by rw [List.size_toArray, hlen]; (first | lia | omega)
      rw [e]; simpa using hu
    · exact fun h13 => hQ _ h2 tk2 h13 (g.trans g2) ku))
theorem EvTo.or2 {x y : PySem.Expr} {p : Pos} {a r : AV} {c : Bool} (hx : EvTo w C ρ μ x a) (ho : OpB w C ρ μ truthy a c) (ht : c = true → r = a) (hf : c = false → EvTo w C ρ μ y r) : EvTo w C ρ μ (.BoolOp .Or [x, y] p) r :=
  fun A s Q E hr h1 R hQ => wpAny_Or2 (hx A s _ _ hr h1 R fun v h' tk h1' g k => tok1 h1' (ho A _ _ _ v hr h1' (R.grow g) k fun h2 tk2 g2 => fun h12 => by
    cases c with
    | true => rw [ht rfl] at hQ; exact hQ v h2 tk2 h12 (g.trans g2) (k.grow g2)
    | false => exact hf rfl A _ _ _ hr h12 ((R.grow g).grow g2) fun v3 h3 tk3 h13 g3 k3 => hQ v3 h3 tk3 h13 ((g.trans g2).trans g3) k3))
end
end Mine
end

section
open PySem PySem.W PyProof.Rows
set_option Elab.async false
set_option maxRecDepth 100000
set_option linter.all false
namespace Mine
noncomputable def spl (c : Nat) : List Nat → List (List Nat)
  | [] => [[]]
  | a :: l => if a = c then [] :: spl c l else match spl c l with
    | p :: r => (a :: p) :: r
    | [] => [[a]]
noncomputable def jn (z : List Nat) : List (List Nat) → List Nat
  | [] => []
  | [x] => x
  | x :: y :: r => x ++ z ++ jn z (y :: r)
theorem spl_ne (c : Nat) : ∀ x, spl c x ≠ []
  | [] => by simp [spl]
  | a :: l => by
    unfold spl
    split
    · simp
    · split <;> simp
theorem spl_one (c : Nat) : ∀ p : List Nat, c ∉ p → spl c p = [p]
  | [], _ => rfl
  | a :: p, h => by
    simp only [List.mem_cons, not_or] at h
    unfold spl
    rw [if_neg (Ne.symm h.1), spl_one c p h.2]
theorem spl_app (c : Nat) (l : List Nat) : ∀ p : List Nat, c ∉ p → spl c (p ++ c :: l) = p :: spl c l
  | [], _ => by simp [spl]
  | a :: p, h => by
    simp only [List.mem_cons, not_or] at h
    show (if a = c then [] :: spl c (p ++ c :: l) else match spl c (p ++ c :: l) with | p :: r => (a :: p) :: r | [] => [[a]]) = _
    rw [if_neg (Ne.symm h.1), spl_app c l p h.2]
theorem spl_jn (c : Nat) : ∀ parts : List (List Nat), parts ≠ [] → (∀ p ∈ parts, c ∉ p) → spl c (jn [c] parts) = parts
  | [], h, _ => absurd rfl h
  | [p], _, h => spl_one c p (h p (by simp))
  | p :: q :: r, _, h => by
    show spl c (p ++ [c] ++ jn [c] (q :: r)) = _
    rw [List.append_assoc, List.singleton_append, spl_app c _ p (h p (by simp)), spl_jn c (q :: r) (by simp) fun x hx => h x (by simp [hx])]
theorem jn_spl (c : Nat) : ∀ x, jn [c] (spl c x) = x
  | [] => rfl
  | a :: l => by
    have ih := jn_spl c l
    unfold spl
    split
    · rename_i e
      subst e
      cases h : spl a l with
      | nil => exact absurd h (spl_ne a l)
      | cons p r => rw [h] at ih; show [] ++ [a] ++ jn [a] (p :: r) = _; rw [ih]; rfl
    · cases h : spl c l with
      | nil => exact absurd h (spl_ne c l)
      | cons p r =>
        rw [h] at ih
        cases r with
        | nil => show a :: p = a :: l; rw [show p = l from ih]
        | cons q r => show (a :: p) ++ [c] ++ jn [c] (q :: r) = a :: l; rw [← ih]; rfl
theorem spl_len (c : Nat) : ∀ x, (spl c x).length ≤ x.length + 1
  | [] => by simp [spl]
  | a :: l => by
    have := spl_len c l
    unfold spl
    split
    · simp; (first | lia | omega)
    · cases h : spl c l with
      | nil => simp
      | cons p r => rw [h] at this; simp at this ⊢; (first | lia | omega)
theorem spl_mem_len (c : Nat) : ∀ x, ∀ p ∈ spl c x, p.length ≤ x.length
  | [], p, h => by simp [spl] at h; simp [h]
  | a :: l, p, h => by
    have ih := spl_mem_len c l
    unfold spl at h
    split at h
    · rcases List.mem_cons.mp h with rfl | h
      · simp
      · have := ih p h; simp; (first | lia | omega)
    · cases hs : spl c l with
      | nil => exact absurd hs (spl_ne c l)
      | cons q r =>
        rw [hs] at h ih
        rcases List.mem_cons.mp h with rfl | h
        · have := ih q (by simp); simp; (first | lia | omega)
        · have := ih p (by simp [h]); simp; (first | lia | omega)
theorem jn_str (z : List Nat) : ∀ parts : List (List Nat), Str.join (mk z) (parts.map mk) = mk (jn z parts)
  | [] => rfl
  | [x] => rfl
  | x :: y :: r => by
    show mk x ++ mk z ++ Str.join (mk z) ((y :: r).map mk) = _
    rw [jn_str z (y :: r), mk_append, mk_append]
    rfl
theorem map_mk_toList : ∀ l : List Str, (l.map (·.cps.toList)).map mk = l
  | [] => rfl
  | x :: l => by rw [List.map_cons, List.map_cons, map_mk_toList l, mk_cps]
theorem split_spl (c : Nat) (x : List Nat) : Txt.split (mk x) (mk [c]) = (spl c x).map mk := by
  have hf := StrLaws.split_free (mk x) c
  have hj := StrLaws.join_split (mk x) (mk [c])
  have hne : Txt.split (mk x) (mk [c]) ≠ [] := by
    unfold Txt.split
    split
    · simp
    · split
      · simp
      · rw [StrLaws.partsBetween_eq]
        obtain ⟨p, r, e⟩ := StrLaws.partsFrom_ne (mk x) (mk [c]).length 0 (Builtin.Str.occurrences (mk x) (mk [c]) 0 (mk x).length ((mk x).length + 1))
        rw [e]; simp
  have e := map_mk_toList (Txt.split (mk x) (mk [c]))
  rw [← e] at hj ⊢
  rw [jn_str] at hj
  have hx : jn [c] ((Txt.split (mk x) (mk [c])).map (·.cps.toList)) = x := by
    have := congrArg (fun s : Str => s.cps.toList) hj
    simpa using this
  have hs : spl c x = (Txt.split (mk x) (mk [c])).map (·.cps.toList) := by
    have hk := spl_jn c ((Txt.split (mk x) (mk [c])).map (·.cps.toList)) (by simpa using hne) (fun p hp => by
      obtain ⟨q, hq, rfl⟩ := List.mem_map.mp hp
      exact hf q hq)
    rw [hx] at hk
    exact hk
  rw [hs]
theorem replace_spl (c : Nat) (x z : List Nat) : Txt.replace (mk x) (mk [c]) (mk z) = mk (jn z (spl c x)) := by
  have : Txt.replace (mk x) (mk [c]) (mk z) = Str.join (mk z) (Txt.split (mk x) (mk [c])) := StrLaws.replace_one (mk x) (mk z) c
  rw [this, split_spl, jn_str]

theorem vrs_strs {F : Addr → Option Obj} : ∀ {l : List (Str × Tok)} {xs : List (List Nat)}, l.map (·.1) = xs.map mk → (∀ x ∈ xs, x.length ≤ LIM) → VRs F (xs.map AV.str) (strValues l)
  | [], [], _, _ => VRs.nil
  | [], _ :: _, h, _ => by simp at h
  | _ :: _, [], h, _ => by simp at h
  | p :: l, x :: xs, h, hl => by
    simp only [List.map_cons, List.cons.injEq] at h
    show VRs F (.str x :: xs.map AV.str) (.str p.1 p.2 :: strValues l)
    rw [h.1]
    exact VRs.cons (vr_str' (hl x (by simp))) (vrs_strs h.2 fun y hy => hl y (by simp [hy]))
theorem vrs_strs_inv {F : Addr → Option Obj} : ∀ {vs : List Value} {xs : List (List Nat)}, VRs F (xs.map AV.str) vs → ∃ l : List (Str × Tok), vs = strValues l ∧ l.map (·.1) = xs.map mk ∧ ∀ x ∈ xs, x.length ≤ LIM
  | vs, [], h => by unfold VRs at h; exact ⟨[], h, rfl, by simp⟩
  | vs, x :: xs, h => by
    rw [List.map_cons] at h
    unfold VRs at h
    obtain ⟨v, r, rfl, k, ks⟩ := h
    obtain ⟨⟨t, rfl⟩, hl⟩ := vr_str k
    obtain ⟨l, rfl, e, hl'⟩ := vrs_strs_inv ks
    exact ⟨(mk x, t) :: l, rfl, by simp [e], fun y hy => by
      rcases List.mem_cons.mp hy with rfl | hy
      · exact hl
      · exact hl' y hy⟩
theorem jn_len (z : List Nat) : ∀ parts : List (List Nat), (jn z parts).length ≤ (parts.map (·.length)).sum + parts.length * z.length
  | [] => by simp [jn]
  | [x] => by simp [jn]
  | x :: y :: r => by
    have := jn_len z (y :: r)
    show (x ++ z ++ jn z (y :: r)).length ≤ _
    simp only [List.length_append, List.map_cons, List.sum_cons, List.length_cons] at this ⊢
    have e : (r.length + 1 + 1) * z.length = (r.length + 1) * z.length + z.length := by rw [Nat.add_mul, Nat.one_mul]
    rw [e]
    (first | lia | omega)

theorem last_of {acc : List (List Nat)} (h : (!(acc.map AV.str).isEmpty) = true) : (acc.map AV.str).getLast? = some (.str (acc.getLastD [])) := by
  cases acc with
  | nil => simp at h
  | cons x l => rw [List.getLast?_map, List.getLast?_cons, List.getLastD_cons, List.getLastD_eq_getLast?]; rfl
section
variable {w : World} {d : Nat}
theorem call_split {x : List Nat} {c : Nat} (hx : x.length + 1 ≤ LIM) : CallsTo w d (.builtin "str.split") [.str x, .str [c]] (.list ((spl c x).map AV.str)) :=
  CallsTo.leaf fun A s ex vs Q E hroom h1 B hex hvs hQ => by
    obtain ⟨u, v, rfl, e1, e2⟩ := vrs2 hvs
    obtain ⟨⟨t, rfl⟩, hlx⟩ := vr_str e1
    obtain ⟨⟨t', rfl⟩, _⟩ := vr_str e2
    have hlen := spl_len c x
    have hfin : ∀ (l : List (Str × Tok)) (tk : Nat), l.map (·.1) = Txt.split (mk x) (mk [c]) → Q (.ref s.heap.objs.size) { s with heap := s.heap.push (listObj (strValues l) 0), toks := tk } := fun l tk hl => by
      rw [split_spl] at hl
      refine hQ _ _ tk (Grow.push _ _) (vr_list' (n := 0) (fz_of ?_ (Heap.get?_push_size _ rfl)) (vrs_strs hl fun p hp => Nat.le_trans (spl_mem_len c x p hp) hlx) (by simp; (first | lia | omega)))
      intro q
      obtain ⟨o, e⟩ := hex _ q
      exact absurd (Heap.lt_size e) (Nat.lt_irrefl _)
    have hsz : (mk x).length ≤ sizeLine := by rw [mk_len]; exact lim_size hlx
    have hy : ((mk [c]).length == 0) = false := rfl
    cases h1 : (decide ((mk x).length < (mk [c]).length) || decide (Builtin.Str.strKind (mk x) < Builtin.Str.strKind (mk [c])))
    · cases hf : (Builtin.Str.occurrences (mk x) (mk [c]) 0 (mk x).length ((mk x).length + 1)).isEmpty
      · have hsp : Builtin.Str.partsBetween (mk x) (Builtin.Str.occurrences (mk x) (mk [c]) 0 (mk x).length ((mk x).length + 1)) (mk [c]).length = Txt.split (mk x) (mk [c]) := by
          unfold Txt.split; rw [if_neg (ne_true_of_eq_false h1), if_neg (ne_true_of_eq_false hf)]
        refine call_meets PySem.F.slot_str_split (typeIs_str _ _ _) PySem.F.entry_str_split (PySem.F.args_str_split_2 _ _) (meets_str_split_sep (mk x) (mk [c]) t t' h1 hy hf hsz (by rw [hsp, split_spl]; simp; exact lim_size (by (first | lia | omega)))) ?_
        show wants Q E _ { s with toks := _, heap := s.heap.push { cls := .type "list", data := .seq (strsFrom s.toks (Builtin.Str.partsBetween (mk x) (Builtin.Str.occurrences (mk x) (mk [c]) 0 (mk x).length ((mk x).length + 1)) (mk [c]).length)).toArray } }
        rw [strsFrom_eq]
        exact hfin (numbered s.toks _) _ ((numbered_texts _ _).trans hsp)
      · exact call_meets PySem.F.slot_str_split (typeIs_str _ _ _) PySem.F.entry_str_split (PySem.F.args_str_split_2 _ _) (meets_str_split_not_found (mk x) (mk [c]) t t' h1 hy hf)
          (hfin [(mk x, t)] s.toks (by unfold Txt.split; rw [if_neg (ne_true_of_eq_false h1), if_pos hf]; rfl))
    · exact call_meets PySem.F.slot_str_split (typeIs_str _ _ _) PySem.F.entry_str_split (PySem.F.args_str_split_2 _ _) (meets_str_split_cannot_occur (mk x) (mk [c]) t t' h1)
        (hfin [(mk x, t)] s.toks (by unfold Txt.split; rw [if_pos h1]; rfl))
theorem call_split' {x y : List Nat} {c : Nat} (h : y = [c]) (hx : x.length + 1 ≤ LIM) : CallsTo w d (.builtin "str.split") [.str x, .str y] (.list ((spl c x).map AV.str)) := h ▸ call_split hx
theorem call_join {z : List Nat} {parts : List (List Nat)} (hl : (parts.map (·.length)).sum + parts.length * z.length ≤ LIM) : CallsTo w d (.builtin "str.join") [.str z, .list (parts.map AV.str)] (.str (jn z parts)) :=
  CallsTo.leaf fun A s ex vs Q E hroom h1 B hex hvs hQ => by
    obtain ⟨u, v, rfl, e1, e2⟩ := vrs2 hvs
    obtain ⟨⟨t, rfl⟩, hlx⟩ := vr_str e1
    obtain ⟨a, vs, n, rfl, ea, kv, _⟩ := vr_list e2
    obtain ⟨l, rfl, hm, _⟩ := vrs_strs_inv kv
    refine SC.join (l := l) (texts := parts.map mk) ⟨_, fz_get ea, rfl, n, rfl⟩ hm ?_ fun t' k => ?_
    · unfold JoinOk
      rw [Bool.not_eq_true']
      unfold Builtin.Str.tooLong
      rw [StrLaws.joinTotal]
      refine decide_eq_false ?_
      have : ((parts.map mk).map (·.length)).sum = (parts.map (·.length)).sum := by congr 1; simp [mk_len]
      rw [this, List.length_map, mk_len]
      have := lim_size hl
      (first | lia | omega)
    · have e : Txt.join (mk z) (parts.map mk) = mk (jn z parts) := by
        show Builtin.Str.glued _ _ = _
        rw [StrLaws.glued_eq_join, jn_str]
      rw [e]
      exact hQ _ s.heap k (Grow.refl _) (vr_str' (Nat.le_trans (jn_len z parts) hl))
end
end Mine
end

section
open PySem PySem.W
set_option Elab.async false
set_option maxRecDepth 100000
set_option linter.all false
namespace Mine
noncomputable def sreCode : Array Nat := #[14, 17, 4, 1, 1, 21, 9, 0, 604043296, 1, 0, 0, 0, 0, 0, 8, 4, 0, 13, 14, 21, 9, 0, 604043296, 1, 0, 0, 0, 0, 0, 8, 4, 0, 1]
noncomputable def safe (c : Nat) : Bool := (decide (c < 256) && (sreCode.getD (7 + c / 32) 0).testBit (c % 32)) || Sre.isWord c
theorem word_shift (c : Nat) (h : c < 256) : sreCode.getD (22 + c / 32) 0 = sreCode.getD (7 + c / 32) 0 := by
  have : c / 32 < 8 := by (first | lia | omega)
  generalize c / 32 = k at this
  match k, this with
  | 0, _ => rfl
  | 1, _ => rfl
  | 2, _ => rfl
  | 3, _ => rfl
  | 4, _ => rfl
  | 5, _ => rfl
  | 6, _ => rfl
  | 7, _ => rfl
theorem inSet5 (c : Nat) (seen : Sre.Seen) : ∃ seen', Sre.inSet sreCode c 34 5 true seen = .ok (!safe c, seen') := by
  have e : Sre.inSet sreCode c 34 5 true seen = (if (decide (c < 256) && (sreCode.getD (6 + (1 + c / 32)) 0).testBit (c % 32)) = true then .ok (false, ((seen.add 21).add 9)) else
    (do if ← Sre.category 4 c then pure (false, (((seen.add 21).add 9).add 8).add (55 + 4)) else Sre.inSet sreCode c 31 17 false ((((seen.add 21).add 9).add 8).add (55 + 4)))) := rfl
  have h6 : 6 + (1 + c / 32) = 7 + c / 32 := by (first | lia | omega)
  rw [e, h6]
  have hc : Sre.category 4 c = .ok (Sre.isWord c) := by
    show (Except.ok (Sre.isWord c)).map (· != false) = _
    simp [Except.map]
  unfold safe
  by_cases h1 : (decide (c < 256) && (sreCode.getD (7 + c / 32) 0).testBit (c % 32)) = true
  · rw [if_pos h1, h1]; exact ⟨_, rfl⟩
  · rw [if_neg h1, hc]
    rw [Bool.eq_false_iff.mpr h1]
    cases h2 : Sre.isWord c with
    | true => exact ⟨_, rfl⟩
    | false => exact ⟨_, rfl⟩
theorem inSet20 (c : Nat) (seen : Sre.Seen) : ∃ seen', Sre.inSet sreCode c 34 20 true seen = .ok (!safe c, seen') := by
  have e : Sre.inSet sreCode c 34 20 true seen = (if (decide (c < 256) && (sreCode.getD (21 + (1 + c / 32)) 0).testBit (c % 32)) = true then .ok (false, ((seen.add 21).add 9)) else
    (do if ← Sre.category 4 c then pure (false, (((seen.add 21).add 9).add 8).add (55 + 4)) else Sre.inSet sreCode c 31 32 false ((((seen.add 21).add 9).add 8).add (55 + 4)))) := rfl
  have h6 : 21 + (1 + c / 32) = 22 + c / 32 := by (first | lia | omega)
  rw [e, h6]
  have hc : Sre.category 4 c = .ok (Sre.isWord c) := by
    show (Except.ok (Sre.isWord c)).map (· != false) = _
    simp [Except.map]
  have hw : (decide (c < 256) && (sreCode.getD (22 + c / 32) 0).testBit (c % 32)) = (decide (c < 256) && (sreCode.getD (7 + c / 32) 0).testBit (c % 32)) := by
    by_cases h : c < 256
    · rw [word_shift c h]
    · simp [h]
  rw [hw]
  unfold safe
  by_cases h1 : (decide (c < 256) && (sreCode.getD (7 + c / 32) 0).testBit (c % 32)) = true
  · rw [if_pos h1, h1]; exact ⟨_, rfl⟩
  · rw [if_neg h1, hc]
    rw [Bool.eq_false_iff.mpr h1]
    cases h2 : Sre.isWord c with
    | true => exact ⟨_, rfl⟩
    | false => exact ⟨_, rfl⟩
theorem admitted_eq (m : Sre.M) (hc : m.code = sreCode) : ∀ (fuel s : Nat) (seen : Sre.Seen), m.lim + 1 ≤ s + fuel → m.lim = m.text.size →
    (∃ seen', Sre.M.admitted m fuel s seen = .ok (none, seen') ∧ ∀ i, s ≤ i → i < m.lim → safe (m.text.getD i 0) = true) ∨
    (∃ j seen', Sre.M.admitted m fuel s seen = .ok (some j, seen') ∧ s ≤ j ∧ j < m.lim ∧ safe (m.text.getD j 0) = false)
  | 0, s, seen, h, hl => .inl ⟨seen, rfl, fun i h1 h2 => by (first | lia | omega)⟩
  | fuel + 1, s, seen, h, hl => by
    unfold Sre.M.admitted
    by_cases hs : s ≥ m.lim
    · rw [if_pos hs]; exact .inl ⟨seen, rfl, fun i h1 h2 => by (first | lia | omega)⟩
    · rw [if_neg hs, hc]
      obtain ⟨seen', e⟩ := inSet5 (m.text.getD s 0) seen
      have hsz : sreCode.size = 34 := rfl
      rw [hsz, e]
      cases q : safe (m.text.getD s 0) with
      | true =>
        rcases admitted_eq m hc fuel (s + 1) seen' (by (first | lia | omega)) hl with ⟨s2, e2, k⟩ | ⟨j, s2, e2, k1, k2, k3⟩
        · refine .inl ⟨s2, e2, fun i h1 h2 => ?_⟩
          rcases Nat.eq_or_lt_of_le h1 with rfl | h1
          · exact q
          · exact k i h1 h2
        · exact .inr ⟨j, s2, e2, by (first | lia | omega), k2, k3⟩
      | false => exact .inr ⟨s, seen', rfl, Nat.le_refl _, by (first | lia | omega), q⟩

noncomputable def m00 (text : Array Nat) : Sre.M := { code := sreCode, text, lim := text.size, start := 0, pc := 18, pos := 0, handed := 0, marks := Array.replicate (2 * 0) none, mustAdvance := false, seen := ({} : Sre.Seen).add 14, lastStart := text.size }
noncomputable def m01 (text : Array Nat) (j : Nat) (seen : Sre.Seen) : Sre.M := { m00 text with start := j, pos := j, handed := j, outermost := true, frames := [{ wait := .nextStart, pc := 18, pos := j, outermost := true }], weight := 1, seen }
theorem step1 (text : Array Nat) (j : Nat) (s2 s3 : Sre.Seen) (hj : j < text.size) (h : Sre.accepts sreCode 18 (text.getD j 0) (s2.add 13) = .ok (true, s3)) :
    Sre.M.step (m01 text j s2) = { m01 text j s3 with pc := 33, pos := j + 1 } := by
  have e : Sre.M.step (m01 text j s2) = (if j ≥ text.size then { m01 text j (s2.add 13) with answer := some false } else
      match Sre.accepts sreCode 18 (text.getD j 0) (s2.add 13) with
      | .error why => { m01 text j (s2.add 13) with outcome := some (.stuck why) }
      | .ok (false, seen) => { m01 text j seen with answer := some false }
      | .ok (true, seen) => { m01 text j seen with pc := 33, pos := j + 1 }) := rfl
  rw [e, if_neg (by (first | lia | omega)), h]
theorem forSearch_eq (text : Array Nat) (hne : text.size ≠ 0) : Sre.forSearch sreCode text 0 0 text.size false = (m00 text).attemptFrom 0 true := by
  unfold Sre.forSearch
  show (if (decide (0 > text.size) || decide (text.size - 0 < 1)) = true then _ else (m00 text).attemptFrom 0 true) = _
  rw [if_neg (by
    intro h
    rw [Bool.or_eq_true, decide_eq_true_eq, decide_eq_true_eq] at h
    (first | lia | omega))]
theorem search_run (text : Array Nat) (hne : text.size ≠ 0) :
    ((Sre.M.runFor 4 (Sre.forSearch sreCode text 0 0 text.size false)).outcome = some .failed ∧ (∀ i, i < text.size → safe (text.getD i 0) = true)) ∨
    ((Sre.M.runFor 4 (Sre.forSearch sreCode text 0 0 text.size false)).outcome = some .matched ∧ (∃ i, i < text.size ∧ safe (text.getD i 0) = false)) := by
  rw [forSearch_eq text hne]
  have hfs : (m00 text).hasFirstSet = true := rfl
  unfold Sre.M.attemptFrom
  rw [hfs]
  simp only [Bool.not_true, Bool.false_eq_true, if_false]
  rcases admitted_eq (m00 text) rfl ((m00 text).lim + 1 - 0) 0 (m00 text).seen (by (first | lia | omega)) rfl with ⟨s2, e2, k⟩ | ⟨j, s2, e2, k1, k2, k3⟩
  · left
    rw [e2]
    exact ⟨rfl, fun i hi => k i (Nat.zero_le _) hi⟩
  · right
    rw [e2]
    refine ⟨?_, j, k2, k3⟩
    obtain ⟨s3, e3⟩ := inSet20 (text.getD j 0) (s2.add 13)
    have k3' : safe (text.getD j 0) = false := k3
    rw [k3'] at e3
    have hs := step1 text j s2 s3 k2 e3
    have e1 : Sre.M.runFor 4 (m01 text j s2) = Sre.M.runFor 3 (Sre.M.step (m01 text j s2)) := rfl
    show (Sre.M.runFor 4 (m01 text j s2)).outcome = _
    rw [e1, hs]
    rfl
end Mine
end

section
open PySem PySem.W PyProof.Rows
set_option Elab.async false
set_option maxRecDepth 100000
set_option maxHeartbeats 0
set_option linter.all false
namespace Mine
theorem k853 {w : World} : (KF w).lookup 853 = some { cls := .type "builtin_function_or_method", data := .fields #[.builtin "re.Pattern.search", .ref 157] } := by rfl
theorem k157 {w : World} : ∃ o, (KF w).lookup 157 = some o ∧ o.cls = .type "re.Pattern" ∧ ∃ vs, o.data = .fields vs ∧ vs[2]? = some (.int 0 0) ∧ vs[5]? = some (.ref 156) ∧ vs[6]? = some (.int 0 0) := ⟨_, rfl, rfl, _, rfl, rfl, rfl, rfl⟩
theorem k156 {w : World} : ∃ o vs n, (KF w).lookup 156 = some o ∧ o.data = .seq vs n ∧ (vs.map Builtin.Re.reRawOf).map (·.toNat) = sreCode := ⟨_, _, _, rfl, rfl, by decide +kernel⟩
theorem entry_search : entryFor table "re.Pattern.search" = some Builtin.«re.Pattern.search» := entryFor_of_tree (by kernel_rfl)

noncomputable def sgS : Manifest.Signature := { machinery := .keywords, full := "Pattern.search", short := "search", receiver := .self, params := [{ name := "string", kind := .posOrKw, required := true }, { name := "pos", kind := .posOrKw, required := false }, { name := "endpos", kind := .posOrKw, required := false }] }
theorem sig_search : Manifest.signature? "re.Pattern.search" = some sgS := by kernel_rfl
theorem kind_search : builtinKind "re.Pattern.search" = some .method := by decide +kernel
theorem args_search (a b : Value) : Bind.checkArgs "re.Pattern.search" { sgS with full := s!"{Bind.lastOf "re.Pattern"}.{Bind.lastOf "re.Pattern.search"}" } ⟨[a, b], []⟩ = pure () := by kernel_rfl
theorem sub_pm : isSubtype (.type "re.Pattern") (.type "module") = pure false := by rw [isSubtype_type]; kernel_rfl
theorem bound_search {w : World} {A : Around} {s : Shared} {v : Value} {o : Obj} {fs : Array Value} {Q : Unit → Shared → Prop} {E : Value → Shared → Prop} (ho : s.heap.get? 157 = some o) (hc : o.cls = .type "re.Pattern") (hd : o.data = .fields fs) (h : Q () s) :
    wpAny (model PR w) A (checkBoundCall "re.Pattern.search" ⟨[.ref 157, v], []⟩) Q E s := by
  have hT : s.TypeIs (.ref 157) "re.Pattern" := ⟨_, ho, hc⟩
  unfold checkBoundCall
  rw [sig_search]
  dsimp only
  rw [kind_search]
  dsimp only
  rw [if_neg (by decide)]
  refine wpAny_bind (wpAny_isInstance hT sub_pm ?_)
  rw [if_neg (by decide +kernel)]
  refine wpAny_bind ?_
  show wpAny _ _ (loadPart 157 (some headPart) >>= fun o => pure (match o.data with | .cls _ => true | _ => false)) _ _ _
  refine wpAny_bind (wpAny_loadPart ho ?_)
  rw [hd]
  refine wpAny_pure ?_
  dsimp only
  rw [if_neg (by decide)]
  refine wpAny_bind (wpAny_typeOf hT ?_)
  dsimp only
  rw [args_search]
  exact wpAny_pure h
theorem forIn_rules {w : World} {A : Around} {s : Shared} {E : Value → Shared → Prop} (m : Sre.M) : ∀ (l : List Nat) {Q : PUnit → Shared → Prop}, Q ⟨⟩ s →
    wpAny (model PR w) A (forIn l PUnit.unit fun i (_ : PUnit) => (if m.seen.has i = true then (do rule (Sre.names.getD i ""); pure (ForInStep.yield PUnit.unit)) else pure (ForInStep.yield PUnit.unit) : Sem (ForInStep PUnit))) Q E s
  | [], _, h => by rw [List.forIn_nil]; exact wpAny_pure h
  | i :: l, _, h => by
    rw [List.forIn_cons]
    refine wpAny_bind ?_
    cases m.seen.has i with
    | true => rw [if_pos rfl]; exact wpAny_bind (wpAny_rule (wpAny_pure (forIn_rules m l h)))
    | false => rw [if_neg (by decide)]; exact wpAny_pure (forIn_rules m l h)
theorem run_search {w : World} {A : Around} {s : Shared} {E : Value → Shared → Prop} {Q : Option Sre.M → Shared → Prop} (m : Sre.M) (b : Bool) (h : (Sre.M.runFor 4 m).outcome = some (if b then .matched else .failed)) (hq : Q (if b then some (Sre.M.runFor 4 m) else none) s) :
    wpAny (model PR w) A (Builtin.Re.reRunToEnd m) Q E s := by
  unfold Builtin.Re.reRunToEnd
  have e : Builtin.Re.reDrive (2 ^ 64) m = pure (Sre.M.runFor 4 m) := by
    have : (2 : Nat) ^ 64 = (2 ^ 64 - 1) + 1 := rfl
    rw [this]
    unfold Builtin.Re.reDrive
    show (if (Sre.M.runFor 4 m).outcome.isSome = true then _ else _) = _
    rw [h, if_pos (by cases b <;> rfl)]
    rfl
  refine wpAny_bind (wpAny_of_eq e ?_)
  refine wpAny_bind ?_
  refine forIn_rules _ _ ?_
  rw [h]
  cases b with
  | true => exact wpAny_pure hq
  | false => exact wpAny_pure hq
theorem named_search (v : Value) : Builtin.Re.reNamed "re.Pattern.search" "search" ["string", "pos", "endpos"] 1 [v] [] = pure [some v, none, none] := by kernel_rfl
theorem target_search {w : World} {A : Around} {s : Shared} {E : Value → Shared → Prop} {Q : Builtin.Re.ReTarget → Shared → Prop} {x : List Nat} {t : Tok} (hk : (KF w).In s.heap) (hl : x.length ≤ LIM)
    (hq : Q { pattern := .ref 157, string := .str (mk x) t, code := sreCode, text := x.toArray, kind := 0, groups := 0, pos := 0, lim := x.toArray.size } s) :
    wpAny (model PR w) A (Builtin.Re.reTarget "re.Pattern.search" "search" ⟨[.ref 157, .str (mk x) t], []⟩) Q E s := by
  obtain ⟨o, e, hc, vs, hd, h2, h5, h6⟩ := k157 (w := w)
  obtain ⟨o', vs', n', e', hd', hcode⟩ := k156 (w := w)
  unfold Builtin.Re.reTarget
  dsimp only
  rw [named_search]
  refine wpAny_bind (wpAny_pure ?_)
  dsimp only
  refine wpAny_bind (wpAny_pure ?_)
  refine wpAny_bind (wpAny_pure ?_)
  refine wpAny_bind (wpAny_fieldsOf (hk _ _ e) hd ?_)
  refine wpAny_bind (wpAny_bind (wpAny_pure ?_))
  dsimp only
  refine wpAny_pure ?_
  dsimp only
  have g2 : Builtin.Re.reRawNat (vs.getD 2 .none) = 0 := by rw [Array.getD_eq_getD_getElem?, h2]; rfl
  have g6 : Builtin.Re.reRawNat (vs.getD 6 .none) = 0 := by rw [Array.getD_eq_getD_getElem?, h6]; rfl
  have g5 : vs.getD 5 .none = .ref 156 := by rw [Array.getD_eq_getD_getElem?, h5]; rfl
  rw [g6, g5, g2]
  rw [if_neg (by decide)]
  rw [if_neg (by decide)]
  unfold Builtin.Re.reNoCollectionInside
  rw [if_neg (by decide)]
  refine wpAny_bind (wpAny_pure ?_)
  unfold Builtin.Re.reRawItems seqItems?
  dsimp only
  refine wpAny_bind (wpAny_bind (wpAny_bind (wpAny_load (hk _ _ e') ?_)))
  rw [hd']
  refine wpAny_pure (wpAny_pure (wpAny_pure ?_))
  show Q { pattern := .ref 157, string := .str (mk x) t, code := (vs'.map Builtin.Re.reRawOf).map (·.toNat), text := x.toArray, kind := 0, groups := 0, pos := min (0 : Int).toNat x.toArray.size, lim := min (2 ^ 63 - 1 : Int).toNat x.toArray.size } s
  rw [hcode]
  have e1 : min (0 : Int).toNat x.toArray.size = 0 := Nat.zero_min _
  have e2 : min (2 ^ 63 - 1 : Int).toNat x.toArray.size = x.toArray.size := by
    have : (2 ^ 63 - 1 : Int).toNat = 9223372036854775807 := rfl
    have hl' : x.length ≤ 1048576 := hl
    rw [this, List.size_toArray]; (first | lia | omega)
  rw [e1, e2]
  exact hq
theorem search_body {w : World} {A : Around} {s : Shared} {E : Value → Shared → Prop} {Q : PySem.Fin → Shared → Prop} {x : List Nat} {t : Tok} (hk : (KF w).In s.heap) (hl : x.length ≤ LIM) (hne : x ≠ [])
    (hq : ∀ v h', Grow s.heap h' → (v = .none ↔ x.all safe = true) → (v = .none ∨ ∃ a, v = .ref a) → Q (.done (.ret v)) { s with heap := h' }) :
    wpAny (model PR w) A (Builtin.«re.Pattern.search» ⟨[.ref 157, .str (mk x) t], []⟩) Q E s := by
  unfold Builtin.«re.Pattern.search»
  refine wpAny_bind (target_search hk hl ?_)
  dsimp only
  unfold Builtin.Re.reAnswer
  have hsz : x.toArray.size ≠ 0 := by
    intro h; apply hne; exact List.eq_nil_of_length_eq_zero (by simpa using h)
  rcases search_run x.toArray hsz with ⟨e, k⟩ | ⟨e, i, hi, k⟩
  · refine wpAny_bind (run_search _ false e ?_)
    refine wpAny_pure (hq .none s.heap (Grow.refl _) ⟨fun _ => ?_, fun _ => rfl⟩ (.inl rfl))
    rw [List.all_eq_true]
    intro c hc
    obtain ⟨i, hi, rfl⟩ := List.getElem_of_mem hc
    have := k i (by simpa using hi)
    simpa [Array.getD, hi] using this
  · refine wpAny_bind (run_search _ true e ?_)
    dsimp only
    unfold Builtin.Re.reNewMatch
    rw [if_pos rfl]
    generalize Sre.M.runFor 4 (Sre.forSearch sreCode x.toArray 0 0 x.toArray.size false) = m
    dsimp only
    refine wpAny_bind ?_
    rw [if_neg (by intro q; cases q)]
    refine wpAny_bind (wpAny_newTuple ?_ (by show 2 ≤ _; decide))
    refine wpAny_bind (wpAny_alloc ?_)
    refine wpAny_pure ?_
    refine wpAny_pure (hq _ _ ((Grow.push _ _).trans (Grow.push _ _)) ⟨fun q => (by cases q), fun q => ?_⟩ (.inr ⟨_, rfl⟩))
    rw [List.all_eq_true] at q
    have := q (x.toArray.getD i 0) (by have hi' : i < x.length := by simpa using hi
                                       simp [Array.getD, hi'])
    rw [this] at k; cases k
end Mine
end

section
open PySem PySem.W PyProof.Rows
set_option Elab.async false
set_option maxRecDepth 100000
set_option linter.all false
namespace Mine
section
variable {w : World} {C : Fc} {ρ : Rho} {μ : Mu}
theorem new_not {ρ : Rho} {μ : Mu} {h : Heap} (R : Rel w C ρ μ h) : h.objs.size ∉ exs C μ := fun q => by
  obtain ⟨o, e⟩ := R.alive _ q
  exact absurd (Heap.lt_size e) (Nat.lt_irrefl _)
-- ints
theorem op_subi {x y : Int} : Op2 w C ρ μ (binaryOp .Sub) (.int x) (.int y) (.int (x - y)) :=
  fun A s Q E u v _ _ _ hu hv hQ => by
    obtain ⟨t, rfl⟩ := vr_int hu
    obtain ⟨t', rfl⟩ := vr_int hv
    exact PyProof.Rows.sub_int (hQ _ s.heap _ (Grow.refl _) vr_int')
theorem op_iaddi {x y : Int} : Op2 w C ρ μ (inplaceOp .Add) (.int x) (.int y) (.int (x + y)) :=
  fun A s Q E u v _ _ _ hu hv hQ => by
    obtain ⟨t, rfl⟩ := vr_int hu
    obtain ⟨t', rfl⟩ := vr_int hv
    exact PyProof.Rows.iadd_int (hQ _ s.heap _ (Grow.refl _) vr_int')
theorem op_modi {x y : Int} (h : y ≠ 0) : Op2 w C ρ μ (binaryOp .Mod) (.int x) (.int y) (.int (x.fmod y)) :=
  fun A s Q E u v _ _ _ hu hv hQ => by
    obtain ⟨t, rfl⟩ := vr_int hu
    obtain ⟨t', rfl⟩ := vr_int hv
    exact PyProof.Rows.mod_int h (hQ _ s.heap _ (Grow.refl _) vr_int')
theorem tree_none : (model PR w).prog.given.tree = none := by rfl
theorem room_pylong {d : Nat} {A : Around} {s : Shared} (hr : Room d A) (B : Base w s.heap) : PylongRoom (model PR w) A s := by
  obtain ⟨env, l, hf, hg, hc, hb, hgl⟩ := hr.1.2
  obtain ⟨_, _, _, mg, mb, T⟩ := B.top
  exact PylongRoom.of T.nolimit (by have := hr.1.1; show A.depth + 100 < recursionLimit; (first | lia | omega)) (SeerAt.of B.seer tree_none hf hg hc hb hgl)
theorem op_divi {x y : Int} (h : y ≠ 0) : Op2 w C ρ μ (binaryOp .FloorDiv) (.int x) (.int y) (.int (x.fdiv y)) :=
  fun A s Q E u v hr _ R hu hv hQ => by
    obtain ⟨t, rfl⟩ := vr_int hu
    obtain ⟨t', rfl⟩ := vr_int hv
    exact PyProof.Rows.floordiv_int h (hQ _ s.heap _ (Grow.refl _) vr_int') (.inr (room_pylong hr (R.ok.base.grow R.keep)))
theorem op_eqi {x y : Int} : Op2 w C ρ μ (compareOp .Eq) (.int x) (.int y) (.bool (x == y)) :=
  fun A s Q E u v _ _ _ hu hv hQ => by
    obtain ⟨t, rfl⟩ := vr_int hu
    obtain ⟨t', rfl⟩ := vr_int hv
    exact PyProof.Rows.eq_int (hQ _ s.heap s.toks (Grow.refl _) vr_bool')
theorem op_gei {x y : Int} : Op2 w C ρ μ (compareOp .GtE) (.int x) (.int y) (.bool (decide (y ≤ x))) :=
  fun A s Q E u v _ _ _ hu hv hQ => by
    obtain ⟨t, rfl⟩ := vr_int hu
    obtain ⟨t', rfl⟩ := vr_int hv
    exact PyProof.Rows.ge_int (hQ _ s.heap s.toks (Grow.refl _) vr_bool')
theorem op_gti {x y : Int} : Op2 w C ρ μ (compareOp .Gt) (.int x) (.int y) (.bool (decide (y < x))) :=
  fun A s Q E u v _ _ _ hu hv hQ => by
    obtain ⟨t, rfl⟩ := vr_int hu
    obtain ⟨t', rfl⟩ := vr_int hv
    exact PyProof.Rows.gt_int (hQ _ s.heap s.toks (Grow.refl _) vr_bool')
-- is None
noncomputable def notNone : AV → Bool
  | .none => false
  | .val v => v != .none
  | _ => true
theorem vr_notNone {F : Addr → Option Obj} {a : AV} {v : Value} (h : VR F a v) : (v = .none ↔ notNone a = false) := by
  cases a with
  | none => obtain rfl := vr_none h; simp [notNone]
  | bool b => obtain rfl := vr_bool h; simp [notNone]
  | int i => obtain ⟨t, rfl⟩ := vr_int h; simp [notNone]
  | str s => obtain ⟨⟨t, rfl⟩, _⟩ := vr_str h; simp [notNone]
  | val x => obtain rfl := vr_val h; simp [notNone]
  | list xs => obtain ⟨a, vs, n, rfl, _⟩ := vr_list h; simp [notNone]
  | tup xs => obtain ⟨a, vs, n, rfl, _⟩ := vr_tup h; simp [notNone]
theorem op_isn {a : AV} : Op2 w C ρ μ (compareOp .Is) a .none (.bool (!notNone a)) :=
  fun A s Q E u v _ _ _ hu hv hQ => by
    obtain rfl := vr_none hv
    have k := vr_notNone hu
    by_cases q : u = .none
    · rw [k.mp q] at hQ; subst q
      exact wpAny_is_self rfl (hQ _ s.heap s.toks (Grow.refl _) vr_bool')
    · have : notNone a = true := by
        cases e : notNone a with
        | true => rfl
        | false => exact absurd (k.mpr e) q
      rw [this] at hQ
      exact is_none_ne q (hQ _ s.heap s.toks (Grow.refl _) vr_bool')
theorem op_isnn {a : AV} : Op2 w C ρ μ (compareOp .IsNot) a .none (.bool (notNone a)) :=
  fun A s Q E u v _ _ _ hu hv hQ => by
    obtain rfl := vr_none hv
    have k := vr_notNone hu
    by_cases q : u = .none
    · rw [k.mp q] at hQ; subst q
      exact wpAny_isNot_self rfl (hQ _ s.heap s.toks (Grow.refl _) vr_bool')
    · have : notNone a = true := by
        cases e : notNone a with
        | true => rfl
        | false => exact absurd (k.mpr e) q
      rw [this] at hQ
      exact isnot_none_ne q (hQ _ s.heap s.toks (Grow.refl _) vr_bool')
-- lists
theorem op_addl {xs ys : List AV} (h : xs.length + ys.length ≤ LIM) : Op2 w C ρ μ (binaryOp .Add) (.list xs) (.list ys) (.list (xs ++ ys)) :=
  fun A s Q E u v _ _ R hu hv hQ => by
    obtain ⟨a, vs, n, rfl, ea, kv, hl⟩ := vr_list hu
    obtain ⟨b, us, m, rfl, eb, ku, hl'⟩ := vr_list hv
    have e : vs.toArray ++ us.toArray = (vs ++ us).toArray := by simp
    refine concat_meets ⟨_, fz_get ea, rfl⟩ ⟨_, fz_get eb, rfl⟩ noFill_list_add seq_list_add PySem.F.slot_list_add PySem.F.entry_list_add (PySem.F.args_list_add_2 _ _) (list_addW a b vs.toArray us.toArray n m none none #[] #[] (by simp; rw [kv.length, ku.length]; exact lim_size h)) ⟨fz_get ea, fz_get eb, ?_⟩
    rw [e]
    refine hQ _ _ s.toks (Grow.push _ _) (vr_list' (n := 0) (fz_of (new_not R) (Heap.get?_push_size _ rfl)) (VRs.grow (kv.append ku) (Grow.push _ _)) (by simpa using h))
theorem foldl_rep (x : Value) : ∀ (n : Nat) (acc : Array Value), List.foldl (fun x1 x2 => x1 ++ x2) acc (List.replicate n #[x]) = acc ++ (List.replicate n x).toArray
  | 0, acc => by simp
  | n + 1, acc => by rw [List.replicate_succ, List.foldl_cons, foldl_rep x n, List.replicate_succ, Array.append_assoc]; congr 1; exact Array.ext' (by simp)
theorem VRs.rep {F : Addr → Option Obj} {x : AV} {v : Value} (h : VR F x v) : ∀ n, VRs F (List.replicate n x) (List.replicate n v)
  | 0 => VRs.nil
  | n + 1 => VRs.cons h (VRs.rep h n)
theorem op_mull {x : AV} {n : Int} (h0 : n.toNat ≤ LIM) (h1 : -(2 ^ 63 : Int) ≤ n) : Op2 w C ρ μ (binaryOp .Mult) (.list [x]) (.int n) (.list (List.replicate n.toNat x)) :=
  fun A s Q E u v _ _ R hu hv hQ => by
    obtain ⟨a, vs, k, rfl, ea, kv, hl⟩ := vr_list hu
    obtain ⟨x', rfl, kx⟩ := vrs1 kv
    obtain ⟨t, rfl⟩ := vr_int hv
    refine wpAny_binaryOp_repeat_ref (T := "list") (U := "int") (by decide) ⟨_, fz_get ea, rfl⟩ (fun s' => typeIs_int s' n t) noFill_list_mul F.fills_int_mul F.slot_int_rmul repeat_list F.slot_int_index.lookup
      (call_meets F.slot_int_rmul (typeIs_int s n t) F.entry_int_rmul (F.args_int_rmul_2 _ _) (int___rmul___int_list n t a [x'].toArray k)
      ⟨fz_get ea, rfl, ⟨_, fz_get ea, rfl⟩, call_meets F.slot_list_mul ⟨_, fz_get ea, rfl⟩ F.entry_list_mul (F.args_list_mul_2 _ _)
        (AutoListH.list___mul___list_int_3 a [x'].toArray k n t (by have h0' : n.toNat ≤ 1048576 := h0; simp [Builtin.List.listFitsIndex]; (first | lia | omega)) (by have h0' : n.toNat ≤ 1048576 := h0; have : ([x'].toArray).size = 1 := rfl; rw [this]; (first | lia | omega)) (by have h0' : n.toNat ≤ 1048576 := h0; simp [Builtin.List.listTooLong, sizeLine]; (first | lia | omega)))
        ⟨fz_get ea, ?_⟩⟩)
    have e : List.foldl (fun x1 x2 => x1 ++ x2) #[] (List.replicate (if ([x'].toArray).isEmpty = true then 0 else n.toNat) [x'].toArray) = (List.replicate n.toNat x').toArray := by
      rw [if_neg (by simp)]
      exact (foldl_rep x' n.toNat #[]).trans (by simp)
    refine hQ _ _ s.toks (Grow.push _ _) (vr_list' (n := 0) (vs := List.replicate n.toNat x') (fz_of (new_not R) ?_) (VRs.rep (kx.grow (Grow.push _ _)) _) (by simpa using h0))
    rw [Heap.get?_push_size _ rfl]
    show some _ = some _
    congr 2
    congr 1
end
end Mine
end

section
open PySem PySem.W PyProof.Rows
set_option Elab.async false
set_option maxRecDepth 100000
set_option linter.all false
namespace Mine
section
variable {w : World} {C : Fc} {ρ : Rho} {μ : Mu}
-- items
theorem EvTo.itl {v i : PySem.Expr} {p : Pos} {xs : List AV} {k : Int} {x : AV} (hv : EvTo w C ρ μ v (.list xs)) (hi : EvTo w C ρ μ i (.int k)) (h0 : 0 ≤ k) (hx : xs[k.toNat]? = some x)
    (hs : ∀ o j, subscripted i false o j = operate [o, j] (getItem o j) := by intro _ _; rfl) : EvTo w C ρ μ (.Subscript v i p) x :=
  fun A s Q E hr h1 R hQ => tok1 h1 (Subscript_ (hv A s _ _ hr h1 R fun v1 h' tk h1' g k1 => hi A _ _ _ hr h1' (R.grow g) fun v2 h2 tk2 h12 g2 k2 => by
    obtain ⟨a, vs, n, rfl, ea, kv, hl'⟩ := vr_list k1
    obtain ⟨t, rfl⟩ := vr_int k2
    have hl : Heap.IsList h2 a vs.toArray := ⟨_, g2 _ _ (fz_get ea), rfl, n, rfl⟩
    obtain ⟨u, hu, ku⟩ := kv.get hx
    have hlt : k.toNat < xs.length := by
      rcases Nat.lt_or_ge k.toNat xs.length with q | q
      · exact q
      · rw [List.getElem?_eq_none q] at hx; cases hx
    refine tail_any (ops := [.ref a, .int k t]) hl.typeIs slot_list_getitem.lookup (wpAny_getItem_list hl h0 (by unfold LIM at hl'; (first | lia | omega)) (x := u) (by simpa using hu) ?_) (hs _ _)
    exact fun h13 => hQ _ h2 tk2 h13 (g.trans g2) (ku.grow g2)))
theorem EvTo.its {v i : PySem.Expr} {p : Pos} {x : List Nat} {k : Int} {c : Nat} (hv : EvTo w C ρ μ v (.str x)) (hi : EvTo w C ρ μ i (.int k)) (h0 : 0 ≤ k) (hx : x[k.toNat]? = some c)
    (hs : ∀ o j, subscripted i false o j = operate [o, j] (getItem o j) := by intro _ _; rfl) : EvTo w C ρ μ (.Subscript v i p) (.str [c]) :=
  fun A s Q E hr h1 R hQ => tok1 h1 (Subscript_ (hv A s _ _ hr h1 R fun v1 h' tk h1' g k1 => hi A _ _ _ hr h1' (R.grow g) fun v2 h2 tk2 h12 g2 k2 => by
    obtain ⟨⟨t, rfl⟩, hl'⟩ := vr_str k1
    obtain ⟨t', rfl⟩ := vr_int k2
    have hlt : k.toNat < x.length := by
      rcases Nat.lt_or_ge k.toNat x.length with q | q
      · exact q
      · rw [List.getElem?_eq_none q] at hx; cases hx
    have hl2 : x.length ≤ 1048576 := hl'
    refine item_str (by unfold fitsSsize; simp; (first | lia | omega)) (by rw [mk_len]; (first | lia | omega)) (by rw [mk_len]; (first | lia | omega)) (fun _ => ?_) (hs _ _) (fun r => ltg_str v (mk x) t r)
    have e : Txt.item (mk x) k = mk [c] := item_meets h0 (by simpa using hx)
    rw [e]
    exact fun h13 => hQ _ h2 _ h13 (g.trans g2) (vr_str' (Nat.le_of_ble_eq_true rfl))))
theorem EvTo.lasts {v i : PySem.Expr} {p : Pos} {x : List Nat} {c : Nat} (hv : EvTo w C ρ μ v (.str x)) (hi : EvTo w C ρ μ i (.int (-1))) (hx : x.getLast? = some c)
    (hs : ∀ o j, subscripted i false o j = operate [o, j] (getItem o j) := by intro _ _; rfl) : EvTo w C ρ μ (.Subscript v i p) (.str [c]) :=
  fun A s Q E hr h1 R hQ => tok1 h1 (Subscript_ (hv A s _ _ hr h1 R fun v1 h' tk h1' g k1 => hi A _ _ _ hr h1' (R.grow g) fun v2 h2 tk2 h12 g2 k2 => by
    obtain ⟨⟨t, rfl⟩, hl'⟩ := vr_str k1
    obtain ⟨t', rfl⟩ := vr_int k2
    have hne : x ≠ [] := fun q => by subst q; simp at hx
    have hpos : 0 < x.length := List.length_pos_iff.mpr hne
    refine item_str (by decide) (by rw [mk_len]; (first | lia | omega)) (by rw [mk_len]; (first | lia | omega)) (fun _ => ?_) (hs _ _) (fun r => ltg_str v (mk x) t r)
    have e : Txt.item (mk x) (-1) = mk [c] := by
      obtain ⟨l, rfl⟩ : ∃ l, x = l ++ [c] := by
        obtain ⟨h, e⟩ := List.getLast?_eq_some_iff.mp hx
        exact ⟨h, e⟩
      have := item_last_right (mk []) l c
      rw [mk_append, List.nil_append] at this
      exact this
    rw [e]
    exact fun h13 => hQ _ h2 _ h13 (g.trans g2) (vr_str' (Nat.le_of_ble_eq_true rfl))))
-- lists of texts, equal?
theorem eqat_str {A : Around} {s : Shared} (x y : List Nat) (t t' : Tok) : SeqAt.EqAt A s (.str (mk x) t) (.str (mk y) t') (x == y) := (SeqRoads2.EqGives.str (mk x) (mk y) t t').at A s
theorem all_range (xs ys : List (List Nat)) (h : xs.length = ys.length) : ((List.range xs.length).all fun j => xs.getD j [] == ys.getD j []) = (xs == ys) := by
  have e : (xs == ys) = decide (xs = ys) := by by_cases q : xs = ys <;> simp [q]
  rw [e, Bool.eq_iff_iff, List.all_eq_true, decide_eq_true_eq]
  constructor
  · intro k
    refine List.ext_getElem h fun i h1 h2 => ?_
    have := k i (List.mem_range.mpr h1)
    simpa [List.getD_eq_getElem?_getD, h1, h2] using this
  · rintro rfl j hj
    simp
theorem strs_at {F : Addr → Option Obj} {A : Around} {s : Shared} {xs ys : List (List Nat)} {vs us : List Value} (kv : VRs F (xs.map AV.str) vs) (ku : VRs F (ys.map AV.str) us) :
    ∀ j (h1 : j < vs.toArray.size) (h2 : j < us.toArray.size), SeqAt.EqAt A s vs.toArray[j] us.toArray[j] (xs.getD j [] == ys.getD j []) := by
  intro j h1 h2
  have l1 : j < xs.length := by have := kv.length; simp at this h1; (first | lia | omega)
  have l2 : j < ys.length := by have := ku.length; simp at this h2; (first | lia | omega)
  have e1 : (xs.map AV.str)[j]? = some (.str xs[j]) := by simp [l1]
  have e2 : (ys.map AV.str)[j]? = some (.str ys[j]) := by simp [l2]
  obtain ⟨v, hv, k⟩ := kv.get e1
  obtain ⟨u, hu, k'⟩ := ku.get e2
  obtain ⟨⟨t, rfl⟩, _⟩ := vr_str k
  obtain ⟨⟨t', rfl⟩, _⟩ := vr_str k'
  have a1 : vs.toArray[j] = .str (mk xs[j]) t := by
    have h1' : j < vs.length := by simpa using h1
    rw [List.getElem?_eq_getElem h1'] at hv
    simpa using hv
  have a2 : us.toArray[j] = .str (mk ys[j]) t' := by
    have h2' : j < us.length := by simpa using h2
    rw [List.getElem?_eq_getElem h2'] at hu
    simpa using hu
  rw [a1, a2]
  have b1 : xs.getD j [] = xs[j] := by simp [List.getD_eq_getElem?_getD, l1]
  have b2 : ys.getD j [] = ys[j] := by simp [List.getD_eq_getElem?_getD, l2]
  rw [b1, b2]
  exact eqat_str _ _ _ _
theorem op_eql {xs ys : List (List Nat)} : Op2 w C ρ μ (compareOp .Eq) (.list (xs.map AV.str)) (.list (ys.map AV.str)) (.bool (xs == ys)) :=
  fun A s Q E u v hr _ R hu hv hQ => by
    obtain ⟨a, vs, n, rfl, ea, kv, hl⟩ := vr_list hu
    obtain ⟨b, us, m, rfl, eb, ku, hl'⟩ := vr_list hv
    have l1 : vs.length = xs.length := by simpa using kv.length
    have l2 : us.length = ys.length := by simpa using ku.length
    have hun : A.units < cLine := by have := hr.2.1; (first | lia | omega)
    by_cases q : xs.length = ys.length
    · refine SeqAt.eq_listAt (e := fun j => xs.getD j [] == ys.getD j []) ⟨_, fz_get ea, rfl, n, rfl⟩ ⟨_, fz_get eb, rfl, m, rfl⟩ (by simp; (first | lia | omega)) hun (strs_at kv ku) ?_
      rw [List.size_toArray, l1, all_range xs ys q]
      exact hQ _ s.heap s.toks (Grow.refl _) vr_bool'
    · refine SeqAt.eq_list_lengthsAt ⟨_, fz_get ea, rfl, n, rfl⟩ ⟨_, fz_get eb, rfl, m, rfl⟩ (by simp; (first | lia | omega)) hun ?_
      have e : (xs == ys) = false := beq_eq_false_iff_ne.mpr fun z => q (by rw [z])
      rw [e] at hQ
      exact hQ _ s.heap s.toks (Grow.refl _) vr_bool'
theorem op_nel {xs ys : List (List Nat)} : Op2 w C ρ μ (compareOp .NotEq) (.list (xs.map AV.str)) (.list (ys.map AV.str)) (.bool (xs != ys)) :=
  fun A s Q E u v hr _ R hu hv hQ => by
    obtain ⟨a, vs, n, rfl, ea, kv, hl⟩ := vr_list hu
    obtain ⟨b, us, m, rfl, eb, ku, hl'⟩ := vr_list hv
    have l1 : vs.length = xs.length := by simpa using kv.length
    have l2 : us.length = ys.length := by simpa using ku.length
    have hun : A.units < cLine := by have := hr.2.1; (first | lia | omega)
    by_cases q : xs.length = ys.length
    · refine SeqAt.RcNeAt.lists (e := fun j => xs.getD j [] == ys.getD j []) ⟨_, fz_get ea, rfl, n, rfl⟩ ⟨_, fz_get eb, rfl, m, rfl⟩ (by simp; (first | lia | omega)) hun (strs_at kv ku) _ _ _ _ ?_
      rw [List.size_toArray, l1, all_range xs ys q]
      exact hQ _ s.heap s.toks (Grow.refl _) vr_bool'
    · refine SeqAt.RcNeAt.lists_lengths ⟨_, fz_get ea, rfl, n, rfl⟩ ⟨_, fz_get eb, rfl, m, rfl⟩ (by simp; (first | lia | omega)) hun _ _ _ _ ?_
      have e : (xs != ys) = true := by rw [bne_iff_ne]; exact fun z => q (by rw [z])
      rw [e] at hQ
      exact hQ _ s.heap s.toks (Grow.refl _) vr_bool'
-- a text in a tuple of texts
noncomputable def isS (x : List Nat) : Value → Bool
  | .str y _ => y.cps.toList == x
  | _ => false
theorem any_strs {F : Addr → Option Obj} {x : List Nat} : ∀ {xs : List (List Nat)} {vs : List Value}, VRs F (xs.map AV.str) vs → vs.any (isS x) = xs.any (· == x)
  | [], _, h => by unfold VRs at h; subst h; rfl
  | y :: xs, _, h => by
    have h' : VRs F (AV.str y :: xs.map AV.str) _ := h
    unfold VRs at h'
    obtain ⟨v, r, rfl, k, ks⟩ := h'
    obtain ⟨⟨t, rfl⟩, _⟩ := vr_str k
    rw [List.any_cons, List.any_cons, any_strs ks]
    rfl
theorem isS_at {F : Addr → Option Obj} {A : Around} {s : Shared} {x : List Nat} {t : Tok} {xs : List (List Nat)} {vs : List Value} (kv : VRs F (xs.map AV.str) vs) : ∀ y, y ∈ vs.toArray → SeqAt.EqAt A s y (.str (mk x) t) (isS x y) := by
  intro y hy
  obtain ⟨j, hj, e⟩ := List.getElem_of_mem (List.mem_toArray.mp hy)
  have l1 : j < xs.length := by have := kv.length; simp at this; (first | lia | omega)
  have e1 : (xs.map AV.str)[j]? = some (.str xs[j]) := by simp [l1]
  obtain ⟨v, hv, k⟩ := kv.get e1
  rw [List.getElem?_eq_getElem hj, e] at hv
  cases hv
  obtain ⟨⟨t', rfl⟩, _⟩ := vr_str k
  exact eqat_str _ _ _ _
theorem op_intup {x : List Nat} {ys : List (List Nat)} : Op2 w C ρ μ (compareOp .In) (.str x) (.tup (ys.map AV.str)) (.bool (ys.any (· == x))) :=
  fun A s Q E u v hr _ R hu hv hQ => by
    obtain ⟨⟨t, rfl⟩, _⟩ := vr_str hu
    obtain ⟨b, us, m, rfl, eb, ku, hl'⟩ := vr_tup hv
    refine SeqAt.in_tupleAt (isS x) ⟨_, fz_get eb, rfl, m, rfl⟩ (isS_at ku) ?_
    rw [List.any_toArray, any_strs ku]
    exact hQ _ s.heap s.toks (Grow.refl _) vr_bool'
theorem op_nintup {x : List Nat} {ys : List (List Nat)} : Op2 w C ρ μ (compareOp .NotIn) (.str x) (.tup (ys.map AV.str)) (.bool (!ys.any (· == x))) :=
  fun A s Q E u v hr _ R hu hv hQ => by
    obtain ⟨⟨t, rfl⟩, _⟩ := vr_str hu
    obtain ⟨b, us, m, rfl, eb, ku, hl'⟩ := vr_tup hv
    refine SeqAt.notIn_tupleAt (isS x) ⟨_, fz_get eb, rfl, m, rfl⟩ (isS_at ku) ?_
    rw [List.any_toArray, any_strs ku]
    exact hQ _ s.heap s.toks (Grow.refl _) vr_bool'
end
end Mine
end

section
open PySem PySem.W PyProof.Rows
set_option Elab.async false
set_option maxRecDepth 100000
set_option linter.all false
namespace Mine
section
variable {w : World} {C : Fc} {ρ : Rho} {μ : Mu}
structure Nx2 (w : World) (C : Fc) (tgt : PySem.Expr) (its : List Addr) (it : Addr) (J : Nat → (Addr → Option Obj) → Prop) (xs : List AV) : Prop where
  mono : ∀ i F F', J i F → (∀ a o, F a = some o → F' a = some o) → J i F'
  has : ∀ i F, J i F → ∀ a ∈ its, ∃ o, F a = some o ∧ (∀ vs n, o ≠ listObj vs n) ∧ ∀ vs n, o ≠ tupObj vs n
  next : ∀ (i : Nat) (A : Around) (s : Shared) (ex : List Addr) (Q0 : Shared → Prop) (Q1 : Value → Shared → Prop) (E : Value → Shared → Prop), A.handled = Option.none → 1 ≤ s.toks → (∀ a ∈ ex, ∃ o, s.heap.get? a = some o) → J i (fz ex s.heap) →
    (∀ x v h' tk, 1 ≤ tk → xs[i]? = some x → (∀ b o, b ∉ its → s.heap.get? b = some o → h'.get? b = some o) → J (i + 1) (fz ex h') → VR (fz ex h') x v → Q1 v { s with heap := h', toks := tk }) →
    (∀ h' tk, 1 ≤ tk → xs[i]? = Option.none → (∀ b o, b ∉ its → s.heap.get? b = some o → h'.get? b = some o) → Q0 { s with heap := h', toks := tk }) →
    wpAny (model PR w) A (pyNext (.ref it)) (fun r s₁ => match r with
      | Option.none => Q0 s₁
      | some v => wpAny (model PR w) A (letOwnedTupleGo tgt (.ref it) v) (fun _ s₂ => Q1 v s₂) E s₁) E s
theorem for_code2 {tgt : PySem.Expr} {body : List Stmt} {its : List Addr} {it : Addr} {J : Nat → (Addr → Option Obj) → Prop} {xs : List AV} {I : Nat → Rho → Mu → Prop} {P : Out → Prop} {f : AV → Rho → Rho}
    (N : Nx2 w C tgt its it J xs) (ha : ∀ (h₀ : Heap) (i : Nat) (x : AV), xs[i]? = some x → AsgTo w { C with h₀ := h₀ } tgt x (f x))
    (hb : ∀ (h₀ : Heap) (i : Nat) (x : AV) ρ' μ', xs[i]? = some x → I i ρ' μ' → ExTo w { C with h₀ := h₀ } (f x ρ') μ' body (Turn I P i))
    (hend : ∀ ρ' μ', I xs.length ρ' μ' → P (.next ρ' μ'))
    {A : Around} {s : Shared} {ρ : Rho} {μ : Mu} {Q : Flow → Shared → Prop} {E : Value → Shared → Prop} (hr : Room C.d A) (h1 : 1 ≤ s.toks) (R : Rel w C ρ μ s.heap) (h0 : I 0 ρ μ) (hJ : J 0 (fz (exs C μ) s.heap)) (hits : ∀ a ∈ its, C.h₀.get? a = Option.none)
    (hQ : ∀ fl o h' tk, 1 ≤ tk → P o → FRel w C fl o h' → Q fl { s with heap := h', toks := tk }) :
    codeAny (model PR w) A (.forLoop tgt (.ref it) body [] C.env) (fun r s' => match r with | .ok f => Q f s' | .error e => cameBackBy (model PR w) A C.env E e s') s := by
  refine codeAny_forLoop_any (fun n s' => ∃ i ρ' μ' h' tk, s' = { s with heap := h', toks := tk } ∧ n = xs.length - i ∧ i ≤ xs.length ∧ 1 ≤ tk ∧ I i ρ' μ' ∧ Rel w C ρ' μ' h' ∧ J i (fz (exs C μ') h')) ?_ xs.length ⟨0, ρ, μ, s.heap, s.toks, rfl, rfl, Nat.zero_le _, h1, h0, R, hJ⟩
  rintro n s' ⟨i, ρ', μ', h', tk, rfl, rfl, hi, h1', hI, R', hJ'⟩
  have hn : ∀ a ∈ its, a ∉ exs C μ' ∧ C.h₀.get? a = Option.none ∧ NoSeq h' a := fun a hm => by
    obtain ⟨o, e, n1, n2⟩ := N.has i _ hJ' a hm
    refine ⟨fz_not e, hits a hm, fun vs n q => ?_, fun vs n q => ?_⟩
    · rw [fz_get e] at q; exact n1 vs n (Option.some.inj q)
    · rw [fz_get e] at q; exact n2 vs n (Option.some.inj q)
  refine wpAny_mono (N.next i A { s with heap := h', toks := tk } (exs C μ') _ _ _ hr.2.2 h1' R'.alive hJ' (fun x v h'' tk' h1'' hx hg hJ'' kv => ?_) (fun h'' tk' h1'' hx hg => ?_)) (fun r s₁ hz => by cases r with | none => exact hz | some v => exact hz) (fun _ _ z => z)
  · have R1 : Rel w C ρ' μ' h'' := R'.turn hg hn
    have hlen : i < xs.length := by
      rcases Nat.lt_or_ge i xs.length with q | q
      · exact q
      · rw [List.getElem?_eq_none q] at hx; cases hx
    refine tok1 h1'' (ha (C.now μ' h'').h₀ i x hx ρ' μ' A _ v _ _ hr h1'' R1.now kv fun h3 tk3 R3 hg3 => ?_)
    intro h13
    have R3' : Rel w C (f x ρ') μ' h3 := R3.back R1.ok R1.keep R1.new
    refine hb (C.now μ' h3).h₀ i x ρ' μ' hx hI A _ _ _ hr h13 R3'.now fun fl o h4 tk4 h14 p xo => ?_
    have hJ4 : ∀ μ4 ρ4, Rel w (C.now μ' h3) ρ4 μ4 h4 → J (i + 1) (fz (exs C μ4) h4) := fun μ4 ρ4 R4 => by
      refine N.mono _ _ _ hJ'' fun a o e => ?_
      have e3 : h3.get? a = some o := hg3 a o (fun q => fz_not e (by unfold exs; exact List.mem_append_left _ q)) (fz_get e)
      have e0 : (hideAll h3 (own C μ')).get? a = some o := hideAll_get _ e3 fun q => fz_not e (by unfold exs; exact List.mem_append_left _ q)
      refine fz_of (fun q => ?_) (R4.keep a o e0)
      unfold exs at q
      rcases List.mem_append.mp q with q | q
      · have z : (hideAll h3 (own C μ')).get? a = Option.none := R4.new a q
        rw [z] at e0; cases e0
      · exact fz_not e (by unfold exs; exact List.mem_append_right _ q)
    cases o with
    | next ρ4 μ4 =>
      obtain ⟨rfl, R4⟩ := xo
      exact ⟨xs.length - (i + 1), by (first | lia | omega), i + 1, ρ4, μ4, h4, tk4, rfl, rfl, hlen, h14, p, R4.back R3'.ok R3'.keep R3'.new, hJ4 μ4 ρ4 R4⟩
    | cont ρ4 μ4 =>
      obtain ⟨rfl, R4⟩ := xo
      exact ⟨xs.length - (i + 1), by (first | lia | omega), i + 1, ρ4, μ4, h4, tk4, rfl, rfl, hlen, h14, p, R4.back R3'.ok R3'.keep R3'.new, hJ4 μ4 ρ4 R4⟩
    | brk ρ4 μ4 =>
      obtain ⟨rfl, R4⟩ := xo
      exact hQ _ _ h4 tk4 h14 p ⟨rfl, R4.back R3'.ok R3'.keep R3'.new⟩
    | ret av ρ4 μ4 =>
      obtain ⟨v', rfl, R4, k4⟩ := xo
      exact hQ _ _ h4 tk4 h14 p ⟨v', rfl, R4.back R3'.ok R3'.keep R3'.new, k4⟩
  · have hlen : i = xs.length := by
      rcases Nat.lt_or_ge i xs.length with q | q
      · rw [List.getElem?_eq_getElem q] at hx; cases hx
      · (first | lia | omega)
    subst hlen
    exact wpAny_execs_nil (hQ _ _ h'' tk' h1'' (hend _ _ hI) ⟨rfl, R'.turn hg hn⟩)

noncomputable def EnumJ (e it l : Addr) (xs : List AV) (i : Nat) (F : Addr → Option Obj) : Prop :=
  (∃ old, F e = some { cls := .type "enumerate", dict := none, data := .fields #[.none, .bool false, .ref it, rawInt i, .none, old], slots := #[] }) ∧ SeqJ "list" "list_iterator" it l xs i F
noncomputable def enumOf (xs : List AV) : List AV := xs.mapIdx fun i x => .tup [.int i, x]
theorem nx_enum {elts : List PySem.Expr} {x1 : Nat} {pos : Pos} {e it l : Addr} {xs : List AV} (hne : e ≠ it) : Nx2 w C (.Tuple elts x1 pos) [e, it] e (EnumJ e it l xs) (enumOf xs) where
  mono := fun i F F' h g => by obtain ⟨⟨old, q⟩, k⟩ := h; exact ⟨⟨old, g _ _ q⟩, seqJ_mono i F F' k g⟩
  has := fun i F h a ha => by
    simp only [List.mem_cons, List.not_mem_nil, or_false] at ha
    rcases ha with rfl | rfl
    · obtain ⟨⟨old, q⟩, _⟩ := h
      exact ⟨_, q, (fun vs n z => by have := congrArg Obj.data z; cases this), (fun vs n z => by have := congrArg Obj.data z; cases this)⟩
    · exact h.2.1.noSeq
  next := fun i A s ex Q0 Q1 E hh h1 hal hJ hit hend => by
    obtain ⟨⟨old, q⟩, ⟨o, e', c, d⟩, vs, n, el, k⟩ := hJ
    have hI : s.heap.IsListIter it l i := ⟨o, fz_get e', c, d⟩
    have hL : s.heap.IsList l vs.toArray := ⟨_, fz_get el, rfl, n, rfl⟩
    have hsz : ∀ i : Nat, (enumOf xs)[i]? = (xs[i]?).map fun x => AV.tup [.int i, x] := fun i => by simp [enumOf]
    cases hx : xs[i]? with
    | none =>
      refine tok1 h1 (wpAny_pyNext_enum_end hh (fz_get q) hI hL (by simp; have := k.length; have := List.getElem?_eq_none_iff.mp hx; (first | lia | omega)) fun h' hb => fun h1' => hend h' s.toks h1' (by rw [hsz, hx]; rfl) fun b o hb' ee => hb b o (by simp at hb'; exact hb'.2) ee)
    | some x =>
      obtain ⟨v, hv, kv⟩ := k.get hx
      refine tok1 h1 (wpAny_pyNext_enum_item (fz_get q) hI hL (by simpa using hv) hne fun h' hE hI' ht hz hk => fun h1' => ?_)
      refine tok1 h1' (wpAny_letOwnedTupleGo_enum hE fun h2 hE2 hs2 => fun h12 => ?_)
      have hlt : s.heap.objs.size ≠ e := fun z => by have := Heap.lt_size (fz_get q); rw [z] at this; exact absurd this (Nat.lt_irrefl _)
      have keep : ∀ b o, b ≠ e → b ≠ it → s.heap.get? b = some o → h2.get? b = some o := fun b o b1 b2 z => (hs2.2 b b1).trans (hk b o b1 b2 z)
      have hle : l ≠ e := fun z => by subst z; have := congrArg Obj.data (Option.some.inj (q.symm.trans el)); cases this
      have hli : l ≠ it := fun z => by subst z; rw [e'] at el; cases el; cases d
      have hl : ∀ a vs n, fz ex s.heap a = some (listObj vs n) → fz ex h2 a = some (listObj vs n) := fun a vs n z =>
        fz_of (fz_not z) (keep a _ (fun y => by subst y; have := congrArg Obj.data (Option.some.inj (q.symm.trans z)); cases this) (fun y => by subst y; rw [e'] at z; cases z; cases d) (fz_get z))
      have htp : ∀ a vs n, fz ex s.heap a = some (tupObj vs n) → fz ex h2 a = some (tupObj vs n) := fun a vs n z =>
        fz_of (fz_not z) (keep a _ (fun y => by subst y; have := congrArg Obj.data (Option.some.inj (q.symm.trans z)); cases this) (fun y => by subst y; rw [e'] at z; cases z; cases d) (fz_get z))
      have nn : s.heap.objs.size ∉ ex := fun z => by obtain ⟨o, y⟩ := hal _ z; exact absurd (Heap.lt_size y) (Nat.lt_irrefl _)
      obtain ⟨o3, e3, c3, d3⟩ := hI'
      refine hit (.tup [.int i, x]) _ h2 _ h12 (by rw [hsz, hx]; rfl) (fun b o hb z => by simp at hb; exact keep b o hb.1 hb.2 z)
        ⟨⟨v, fz_of (fz_not q) hE2⟩, ⟨o3, fz_of (fz_not e') ((hs2.2 it (Ne.symm hne)).trans e3), c3, d3⟩, vs, n, fz_of (fz_not el) (keep _ _ hle hli (fz_get el)), VRs.mono2 hl htp _ _ k⟩
        (vr_tup' (n := 0) (vs := [.int i s.toks, v]) (fz_of nn ((hs2.2 _ hlt).trans ht)) (VRs.cons vr_int' (VRs.cons (VR.mono2 hl htp _ _ kv) VRs.nil)) (Nat.le_of_ble_eq_true rfl))
end
end Mine
end

section
open PySem PySem.W PyProof.Rows
set_option Elab.async false
set_option maxRecDepth 100000
set_option linter.all false
namespace Mine
section
variable {w : World} {C : Fc} {ρ : Rho} {μ : Mu}
theorem X1To.fore {xs' : List (Str × Pos)} {k : Nat} {tp cp np p : Pos} {e : PySem.Expr} {body : List Stmt} {xs : List AV} {P : Out → Prop} (I : Nat → Rho → Mu → Prop) (hf : EvTo w C ρ μ (.Name (Str.ofString "enumerate") np) (.val (.type "enumerate"))) (hi : EvTo w C ρ μ e (.list xs)) (h0 : I 0 ρ μ)
    (hb : ∀ (h₀ : Heap) (i : Nat) (v : AV) ρ' μ', xs[i]? = some v → I i ρ' μ' → ExTo w { C with h₀ := h₀ } (putAll ρ' xs' [.int i, v]) μ' body (Turn I P i))
    (hend : ∀ ρ' μ', I xs.length ρ' μ' → P (.next ρ' μ')) (hl : xs'.length = 2) (hk : (xs'.all fun x => decide (C.env.kindOf x.1 = some .local)) = true) (hs : ∀ x, foldedSetIterable (.Call (.Name (Str.ofString "enumerate") np) [e] [] cp) C.env x = pure x := by intro _; rfl)
    (he : starEach [e] C.env = (false, eval e C.env) :: starEach [] C.env := by rfl) :
    X1To w C ρ μ (.For (.Tuple (nms xs') k tp) (.Call (.Name (Str.ofString "enumerate") np) [e] [] cp) body [] p) P :=
  fun A s Q E hr h1 R hQ => wpAny_For (by
    show wpAny _ _ (do callWith cp (← eval (.Name (Str.ofString "enumerate") np) C.env) [] (backTo cp (starEach [e] C.env)) (backToKw cp (keywordEach [] C.env))) _ _ _
    refine wpAny_bind (hf A s _ _ hr h1 R fun v h' tk h1' g kf => ?_)
    rw [vr_val kf, he]
    refine PyProof.Rows.callWith_type rfl (Calls.evalArgs_plain (Calls.spliced_cons (hi A _ _ _ hr h1' (R.grow g) fun v2 h2 tk2 h12 g2 k2 => Calls.spliced_nil ?_)))
    obtain ⟨l, vs, n, rfl, el, kv, hlen⟩ := vr_list k2
    have R2 := (R.grow g).grow g2
    refine call_enumerate_1 (fz_get el) fun h3 hE hI hz hkeep => ?_
    refine wpAny_pyIter_enum hE ?_
    have gp : Grow h2 h3 := hkeep
    have n1 : h2.objs.size ∉ exs C μ := new_not R2
    have n2 : h2.objs.size + 1 ∉ exs C μ := fun q => by obtain ⟨o, z⟩ := R2.alive _ q; exact absurd (Heap.lt_size z) (Nat.not_lt_of_le (Nat.le_succ _))
    obtain ⟨o3, e3, c3, d3⟩ := hI
    have hlen2 : (enumOf xs).length = xs.length := by simp [enumOf]
    refine for_code2 (xs := enumOf xs) (I := I) (nx_enum (xs := xs) (l := l) (it := h2.objs.size) (by show h2.objs.size + 1 ≠ h2.objs.size; (first | lia | omega))) (f := fun v ρ => match v with | .tup avs => putAll ρ xs' avs | _ => ρ) (fun h₀ i v hv => ?_) (fun h₀ i v ρ' μ' hv hI' => ?_) (by rw [hlen2]; exact hend) hr h12 (R2.grow gp) h0 ⟨⟨_, fz_of n2 hE⟩, ⟨o3, fz_of n1 e3, c3, d3⟩, vs, n, gp.fz _ _ _ el, kv.grow gp⟩ ?_ hQ
    · have : ∃ x, v = .tup [.int i, x] := by
        simp only [enumOf, List.getElem?_mapIdx] at hv
        cases hx : xs[i]? with
        | none => rw [hx] at hv; cases hv
        | some x => rw [hx] at hv; exact ⟨x, (Option.some.inj hv).symm⟩
      obtain ⟨x, rfl⟩ := this
      exact AsgTo.tup xs' (fun x hx => of_decide_eq_true (List.all_eq_true.mp hk x hx)) hl
    · simp only [enumOf, List.getElem?_mapIdx] at hv
      cases hx : xs[i]? with
      | none => rw [hx] at hv; cases hv
      | some x =>
        rw [hx] at hv
        obtain rfl := (Option.some.inj hv).symm
        exact hb h₀ i x ρ' μ' hx hI'
    · intro a ha
      simp only [List.mem_cons, List.not_mem_nil, or_false] at ha
      cases q : C.h₀.get? a with
      | none => rfl
      | some o =>
        have := Heap.lt_size (R2.keep _ _ q)
        rcases ha with rfl | rfl
        · exact absurd this (Nat.not_lt_of_le (Nat.le_succ _))
        · exact absurd this (Nat.lt_irrefl _)) hs
end
end Mine
end

section
open PySem PySem.W PyProof.Rows
set_option Elab.async false
set_option maxRecDepth 100000
set_option linter.all false
namespace Mine
section
variable {w : World} {C : Fc} {ρ : Rho} {μ : Mu}
-- range
noncomputable def RangeJ (it : Addr) (n : Nat) (i : Nat) (F : Addr → Option Obj) : Prop := i ≤ n ∧ F it = some { cls := .type "range_iterator", dict := none, data := .fields #[rawInt i, rawInt (n - i : Nat), rawInt 1], slots := #[] }
noncomputable def rangeOf (n : Nat) : List AV := (List.range n).map fun (i : Nat) => AV.int (i : Int)
theorem rangeOf_get (n i : Nat) : (rangeOf n)[i]? = if i < n then some (.int i) else none := by
  unfold rangeOf
  rw [List.getElem?_map]
  split
  · rename_i h; simp [h]
  · rename_i h; simp; (first | lia | omega)
theorem nx_range {it : Addr} {n : Nat} : Nx w C [it] it (RangeJ it n) (rangeOf n) where
  mono := fun i F F' h g => ⟨h.1, g _ _ h.2⟩
  has := fun i F h a ha => by rw [List.mem_singleton] at ha; subst ha; exact ⟨_, h.2, (fun vs n z => by have := congrArg Obj.data z; cases this), (fun vs n z => by have := congrArg Obj.data z; cases this)⟩
  next := fun i A s ex Q E hh h1 hJ hit hend => by
    obtain ⟨hi, q⟩ := hJ
    by_cases hlt : i < n
    · refine wpAny_pyNext_range_item (fz_get q) (by (first | lia | omega)) fun h' hI hs => ?_
      refine hit (.int i) _ h' _ (by rw [rangeOf_get, if_pos hlt]) (fun b o hb z => (hs.2 b (by simpa using hb)).trans z) ⟨hlt, ?_⟩ vr_int'
      refine fz_of (fz_not q) (hI.trans ?_)
      have : ((n - i : Nat) : Int) - 1 = ((n - (i + 1) : Nat) : Int) := by (first | lia | omega)
      rw [this]
      rfl
    · refine wpAny_pyNext_range_end hh (fz_get q) (by (first | lia | omega)) fun h' hb => hend h' s.toks (by rw [rangeOf_get, if_neg hlt]) fun b o hb' z => hb b o (by simpa using hb') z
theorem small_range {n : Nat} (h : n ≤ LIM) : Builtin.Range.small 0 n 1 = true ∧ Builtin.Range.rangeSize 0 n 1 = n := by
  have hn : n ≤ 1048576 := h
  have e : Builtin.Range.rangeSize 0 n 1 = n := by
    unfold Builtin.Range.rangeSize
    rw [if_pos (by decide)]
    split <;> (first | lia | omega)
  refine ⟨?_, e⟩
  unfold Builtin.Range.small
  rw [e]
  unfold Builtin.Range.rangeFitsLong
  simp
  (first | lia | omega)
theorem X1To.forr {x : Str} {xp cp np p : Pos} {e : PySem.Expr} {body : List Stmt} {n : Nat} {P : Out → Prop} (I : Nat → Rho → Mu → Prop) (hf : EvTo w C ρ μ (.Name (Str.ofString "range") np) (.val (.type "range"))) (hi : EvTo w C ρ μ e (.int n)) (hn : n ≤ LIM) (h0 : I 0 ρ μ)
    (hb : ∀ (h₀ : Heap) (i : Nat) ρ' μ', i < n → I i ρ' μ' → ExTo w { C with h₀ := h₀ } (put ρ' x (.int i)) μ' body (Turn I P i))
    (hend : ∀ ρ' μ', I n ρ' μ' → P (.next ρ' μ')) (hk : C.env.kindOf x = some .local := by rfl) (hs : ∀ x, foldedSetIterable (.Call (.Name (Str.ofString "range") np) [e] [] cp) C.env x = pure x := by intro _; rfl)
    (he : starEach [e] C.env = (false, eval e C.env) :: starEach [] C.env := by rfl) :
    X1To w C ρ μ (.For (.Name x xp) (.Call (.Name (Str.ofString "range") np) [e] [] cp) body [] p) P :=
  fun A s Q E hr h1 R hQ => wpAny_For (by
    show wpAny _ _ (do callWith cp (← eval (.Name (Str.ofString "range") np) C.env) [] (backTo cp (starEach [e] C.env)) (backToKw cp (keywordEach [] C.env))) _ _ _
    refine wpAny_bind (hf A s _ _ hr h1 R fun v h' tk h1' g kf => ?_)
    rw [vr_val kf, he]
    refine PyProof.Rows.callWith_type rfl (Calls.evalArgs_plain (Calls.spliced_cons (hi A _ _ _ hr h1' (R.grow g) fun v2 h2 tk2 h12 g2 k2 => Calls.spliced_nil ?_)))
    obtain ⟨t, rfl⟩ := vr_int k2
    have R2 := (R.grow g).grow g2
    refine call_range_1 ?_
    refine wpAny_pyIter_range (a := 0) (b := n) (c := 1) (Heap.get?_push_size _ rfl) (small_range hn).1 ?_
    rw [(small_range hn).2]
    have g3 := Grow.push h2 { cls := .type "range", data := .fields #[.int 0 tk2, .int n t, .int 1 (tk2 + 1)] }
    have R3 := R2.grow g3
    have g4 := Grow.push (h2.push { cls := .type "range", data := .fields #[.int 0 tk2, .int n t, .int 1 (tk2 + 1)] }) { cls := .type "range_iterator", data := .fields #[rawInt 0, rawInt n, rawInt 1] }
    have hlen : (rangeOf n).length = n := by simp [rangeOf]
    refine for_code (xs := rangeOf n) (I := I) nx_range (f := fun v ρ => put ρ x v) (fun h₀ i v _ => AsgTo.name hk) (fun h₀ i v ρ' μ' hv hI' => ?_) (by rw [hlen]; exact hend) (fun _ => rfl) hr (by show 1 ≤ tk2 + 1 + 1; (first | lia | omega)) (R3.grow g4) h0 ⟨Nat.zero_le _, fz_of (new_not R3) (Heap.get?_push_size _ rfl)⟩ ?_ hQ
    · rw [rangeOf_get] at hv
      by_cases q : i < n
      · rw [if_pos q] at hv; cases hv; exact hb h₀ i ρ' μ' q hI'
      · rw [if_neg q] at hv; cases hv
    · intro a ha
      rw [List.mem_singleton] at ha; subst ha
      cases q : C.h₀.get? _ with
      | none => rfl
      | some o => exact absurd (Heap.lt_size (R3.keep _ _ q)) (Nat.lt_irrefl _)) hs
end
end Mine
end

section
open PySem PySem.W PyProof.Rows
set_option Elab.async false
set_option maxRecDepth 100000
set_option linter.all false
namespace Mine
section
variable {w : World} {C : Fc} {ρ : Rho} {μ : Mu}
theorem call_search {A : Around} {s : Shared} {Q E : Value → Shared → Prop} {x : List Nat} {t : Tok} (hk : (KF w).In s.heap) (hl : x.length ≤ LIM) (hne : x ≠ [])
    (hq : ∀ v h', Grow s.heap h' → (v = .none ↔ x.all safe = true) → (v = .none ∨ ∃ a, v = .ref a) → Q v { s with heap := h' }) : wpAny (model PR w) A (call (.ref 853) [.str (mk x) t]) Q E s := by
  obtain ⟨o, e, hc, vs, hd, _⟩ := k157 (w := w)
  refine wpAny_call (codeAny_of_tree ?_)
  show wpAny _ A.in1 (callAny (.ref 853) ⟨[.str (mk x) t], []⟩) _ _ s
  unfold callAny
  refine wpAny_bind (wpAny_load (hk _ _ k853) ?_)
  show wpAny _ A.in1 (do checkBoundCall "re.Pattern.search" ⟨[.ref 157, .str (mk x) t], []⟩; again (.builtin "re.Pattern.search" ⟨[.ref 157, .str (mk x) t], []⟩)) _ _ s
  refine wpAny_bind (bound_search (hk _ _ e) hc hd ?_)
  refine wpAny_pure ⟨plainId_quiet (by decide +kernel) _, codeAny_builtin entry_search ?_⟩
  exact search_body hk hl hne fun v h' g k1 k2 => hq v h' g k1 k2
theorem g_find : nsIn (KF w) mainGlobals (Str.ofString "_find_unsafe") = some (some (.ref 853)) := by kernel_rfl
theorem keep_find {M : Model} (h : Heap) (X : (KF w).In h) : ∃ k, (k = Keeper.frame ∨ k = Keeper.machine ∨ k = Keeper.boundFrame) ∧ Looks M h (keeperOf (.ref 853)) k := by
  refine ⟨.machine, .inr (.inl rfl), ?_⟩
  unfold keeperOf
  refine (Looks.ld (X _ _ k853)).andThen ?_
  exact Looks.of_pure rfl
theorem jn_spl_len (c : Nat) (z : List Nat) : ∀ x, (jn z (spl c x)).length ≤ x.length + x.length * z.length
  | [] => by simp [spl, jn]
  | a :: l => by
    have ih := jn_spl_len c z l
    have e : (a :: l).length * z.length = l.length * z.length + z.length := by rw [List.length_cons, Nat.add_mul, Nat.one_mul]
    rw [e]
    unfold spl
    cases h : spl c l with
    | nil => exact absurd h (spl_ne c l)
    | cons p r =>
      rw [h] at ih
      split
      · show ([] ++ z ++ jn z (p :: r)).length ≤ _
        simp only [List.length_append, List.length_cons, List.length_nil] at ih ⊢
        (first | lia | omega)
      · dsimp only
        have : (jn z ((a :: p) :: r)).length = (jn z (p :: r)).length + 1 := by
          cases r with
          | nil => rfl
          | cons q r => show ((a :: p) ++ z ++ jn z (q :: r)).length = (p ++ z ++ jn z (q :: r)).length + 1; simp
        rw [this]
        simp only [List.length_cons]
        (first | lia | omega)
theorem TrTo.search {np cp kp p : Pos} {k : Nat} {e : PySem.Expr} {x : List Nat} (hf : EvTo w C ρ μ (.Name (Str.ofString "_find_unsafe") np) (.val (.ref 853))) (hx : EvTo w C ρ μ e (.str x)) (hne : x ≠ [])
    (he : starEach [e] C.env = (false, eval e C.env) :: starEach [] C.env := by rfl) :
    TrTo w C ρ μ (.Compare (.Call (.Name (Str.ofString "_find_unsafe") np) [e] [] cp) [.Is] [.Constant .none k kp] p) (x.all safe) :=
  fun A s Q E hr h1 R hQ => wpAny_isTrue_Compare1 (by
    show wpAny _ _ (do callWith cp (← eval (.Name (Str.ofString "_find_unsafe") np) C.env) [] (backTo cp (starEach [e] C.env)) (backToKw cp (keywordEach [] C.env))) _ _ _
    refine wpAny_bind (hf A s _ _ hr h1 R fun v h' tk h1' g kf => ?_)
    rw [vr_val kf]
    have R1 := R.grow g
    rw [he]
    refine callWith_of (P := fun h => (KF w).In h) rfl keep_find (Calls.evalArgs_plain (Calls.spliced_cons (hx A _ _ _ hr h1' R1 fun v2 h2 tk2 h12 g2 k2 => Calls.spliced_nil ?_)))
    obtain ⟨⟨t, rfl⟩, hl⟩ := vr_str k2
    have R2 := R1.grow g2
    refine ⟨(R2.ok.base.grow R2.keep).kin, tok1 h12 (call_search (R2.ok.base.grow R2.keep).kin hl hne fun v3 h3 g3 k3 k4 => fun h13 => ?_)⟩
    refine wpAny_Constant_none ?_
    refine is_none_gen ?_
    have e : (v3 == Value.none) = x.all safe := by
      rcases k4 with rfl | ⟨a, rfl⟩
      · rw [k3.mp rfl]; rfl
      · have : x.all safe ≠ true := fun q => by cases k3.mpr q
        rw [Bool.eq_false_iff.mpr this]; rfl
    rw [e]
    exact wpAny_truthy_bool (hQ h3 tk2 h12 ((g.trans g2).trans g3))) (by with_unfolding_all rfl)
theorem EvTo.repl {o : PySem.Expr} {ap p p1 p2 : Pos} {k1 k2 : Nat} {x : List Nat} {y z : Str} {c : Nat} {pl : Sem Bool}
    (ho : EvTo w C ρ μ o (.str x)) (hy : y.cps.toList = [c]) (hyz : (y == z) = false) (hlen : x.length + (x.length + 1) * z.cps.toList.length ≤ LIM)
    (hE : eval (.Call (.Attribute o (Str.ofString "replace") ap) [.Constant (.str y) k1 p1, .Constant (.str z) k2 p2] [] p) C.env = (do
      let ov ← eval o C.env
      standAt ap.atName
      let (f, first) ← holding [ov] (getMethod ov (Str.ofString "replace") pl)
      callWith p f first (backTo p (starEach [.Constant (.str y) k1 p1, .Constant (.str z) k2 p2] C.env)) []) := by rfl) :
    EvTo w C ρ μ (.Call (.Attribute o (Str.ofString "replace") ap) [.Constant (.str y) k1 p1, .Constant (.str z) k2 p2] [] p) (.str (jn z.cps.toList (spl c x))) :=
  fun A s Q E hr h1 R hQ => MethodCall_ (ho A s _ _ hr h1 R fun v h' tk h1' g k => by
    obtain ⟨⟨t, rfl⟩, hl⟩ := vr_str k
    refine gm_replace A _ _ _ t ?_
    refine callWith_method1 ?_ rfl rfl
    refine wpAny_items_cons (wpAny_Constant_str (wpAny_items_cons (wpAny_Constant_str (wpAny_items_nil ?_)) rfl)) rfl
    have hlen' : x.length + (x.length + 1) * z.cps.toList.length ≤ 1048576 := hlen
    refine tok1 (by show 1 ≤ tk + 1 + 1; (first | lia | omega)) (SC.replace (u := tk) (v := tk + 1) (Nat.ne_of_gt h1') (Nat.succ_ne_zero _) (Nat.ne_of_lt (Nat.lt_succ_self _)) hyz (by rw [mk_len]; show x.length + (x.length + 1) * z.cps.size ≤ _; rw [← Array.length_toList]; (first | lia | omega)) fun t' kk => fun h12 => ?_)
    have e : Txt.replace (mk x) y z = mk (jn z.cps.toList (spl c x)) := by
      have ey : y = mk [c] := by rw [← hy]
      have := replace_spl c x z.cps.toList
      rw [mk_cps] at this
      rw [ey]; exact this
    rw [e]
    refine hQ _ h' kk h12 g (vr_str' ?_)
    have := jn_spl_len c z.cps.toList x
    have e2 : (x.length + 1) * z.cps.toList.length = x.length * z.cps.toList.length + z.cps.toList.length := by rw [Nat.add_mul, Nat.one_mul]
    (first | lia | omega)) hE
end
end Mine
end

section
open PySem PySem.W PyProof.Rows
set_option Elab.async false
set_option maxRecDepth 100000
set_option linter.all false
namespace Mine
noncomputable def CallsToP (w : World) (d : Nat) (PP : Heap → Prop) (f : Value) (args : List AV) (r : AV) : Prop :=
  ∀ (A : Around) (s : Shared) (ex : List Addr) (vs : List Value) (Q E : Value → Shared → Prop), Room d A → 1 ≤ s.toks → Base w s.heap → PP s.heap → (∀ a ∈ ex, ∃ o, s.heap.get? a = some o) →
    VRs (fz ex s.heap) args vs → (∀ v h' tk, 1 ≤ tk → Grow s.heap h' → VR (fz ex h') r v → Q v { s with heap := h', toks := tk }) → wpAny (model PR w) A (call f vs) Q E s
theorem enterP {PP : Heap → Prop} {w : World} {d : Nat} {f : Addr} {name qual : Str} {params : Arguments} {body : List Stmt} {scope : Scope} {dV kV doc pm cdv ct oc : Value} {an od : Option Addr} {osl : Array (Option Value)} {args : List AV} {r : AV} (names : List Str)
    (ho : (KF w).lookup f = some ⟨oc, od, .func (fnOf name qual params body scope dV kV doc pm an cdv ct), osl⟩) (hcd : codeIn (KF w) cdv qual = true)
    (hbind : ∀ vs : List Value, vs.length = args.length → bindArgs (fnOf name qual params body scope dV kV doc pm an cdv ct) ⟨vs, []⟩ = pure (names.zip vs))
    (hnd : names.Nodup) (hloc : ∀ x ∈ names, scope.names.lookup x = some .local)
    (h : ∀ (h₀ : Heap) (L : Addr) (ex : List Addr), PP h₀ → ExTo w ⟨h₀, envOf qual scope L f cdv, ex, d⟩ (names.zip args) [] body (Back w ⟨h₀, envOf qual scope L f cdv, ex, d⟩ r))
    (hco : scope.isCoroutine = false) (hgen : scope.isGenerator = false) (hk : scope.kind = .function) (hcell : ∀ x ∈ scope.names, x.2 ≠ .cell) : CallsToP w (d + 1) PP (.ref f) args r := by
  intro A s ex vs Q E hroom h1 B hPP hex hvs hQ
  obtain ⟨_, _, _, mg, mb, T⟩ := B.top
  have hlen : vs.length = args.length := hvs.length
  refine wpAny_call ?_
  refine codeAny_call_def (fd := fnOf name qual params body scope dV kV doc pm an cdv ct) (body := body) (binds := names.zip vs) (by have := hroom.1.1; (first | lia | omega)) (B.kin _ _ ho) rfl T.nolimit (codeRec_of B.kin hcd) rfl (BindsTo.of_eq (hbind vs hlen)) hcell ?_ (fun h₁ hns hk₁ => ?_) hco hgen hk
  · intro x hx
    exact hloc x.1 (List.of_mem_zip hx).1
  · have hnew : s.heap.get? s.heap.objs.size = none := get?_size_none _
    have R : Rel w ⟨s.heap, envOf qual scope s.heap.objs.size f cdv, ex, d⟩ (names.zip args) [] h₁ := by
      refine ⟨⟨B, hk, rfl, rfl⟩, hk₁, ⟨_, hns, ?_⟩, fun p hp => by simp at hp, ?_, by simp [own], ?_, ?_⟩
      · have hz := zip_vrs (names := names) (hvs.more hnew hk₁)
        intro x av e
        obtain ⟨v, hv, k⟩ := hz x av e
        exact ⟨v, (zip_reverse_lookup hnd x).trans hv, k⟩
      · intro a ha
        simp only [own, List.map_nil, List.mem_cons, List.not_mem_nil, or_false] at ha
        rw [ha]; exact hnew
      · intro a ha q
        simp only [own, List.map_nil, List.mem_cons, List.not_mem_nil, or_false] at ha
        obtain ⟨o, e⟩ := hex a q
        rw [ha] at e
        have e' : s.heap.get? s.heap.objs.size = some o := e
        rw [hnew] at e'; cases e'
      · intro a ha
        simp only [exs, own, List.map_nil, List.cons_append, List.nil_append, List.mem_cons] at ha
        rcases ha with rfl | ha
        · obtain ⟨o, _, _, e, _⟩ := hns; exact ⟨o, e⟩
        · obtain ⟨o, e⟩ := hex a ha; exact ⟨o, hk₁ _ _ e⟩
    refine h s.heap s.heap.objs.size ex hPP (A.deeper (callEnv (fnOf name qual params body scope dV kV doc pm an cdv ct) s.heap.objs.size f)) _ _ _ ⟨⟨?_, ?_⟩, ?_, hroom.2.2⟩ ?_ R fun fl o h' tk h1' p x => ?_
    · have := hroom.1.1
      show A.depth + 1 + d + 120 < recursionLimit
      (first | lia | omega)
    · obtain ⟨env, l, hf, _⟩ := hroom.1.2
      exact ⟨_, _, Around.frames_deeper hf, hgen, hco, rfl, rfl⟩
    · have := hroom.2.1
      show A.units + 3 + 10 * d + 100 < cLine
      (first | lia | omega)
    · show 1 ≤ s.toks + _
      (first | lia | omega)
    · cases o with
      | next ρ' μ' =>
        obtain ⟨rfl, R'⟩ := x
        have e : r = .none := p
        subst e
        exact hQ _ h' tk h1' R'.keep vr_none'
      | brk ρ' μ' => exact p.elim
      | cont ρ' μ' => exact p.elim
      | ret av ρ' μ' =>
        obtain ⟨v, rfl, R', k⟩ := x
        exact hQ _ h' tk h1' R'.keep (p h' v R' k)

noncomputable def Scr (a : Addr) (ns : List Int) (h : Heap) : Prop := ∃ vs, h.IsList a vs.toArray ∧ IntsAre vs ns
theorem Scr.grow {a : Addr} {ns : List Int} {h h' : Heap} (x : Scr a ns h) (g : Grow h h') : Scr a ns h' := by
  obtain ⟨vs, ⟨o, e, r⟩, k⟩ := x
  exact ⟨vs, ⟨o, g _ _ e, r⟩, k⟩
theorem ints_vrs {F : Addr → Option Obj} : ∀ {vs : List Value} {ns : List Int}, IntsAre vs ns → VRs F (ns.map AV.int) vs
  | _, _, .nil => VRs.nil
  | _, _, .cons n t r => VRs.cons vr_int' (ints_vrs r)
section
variable {w : World} {C : Fc} {ρ : Rho} {μ : Mu}
theorem EvTo.callP {PP : Heap → Prop} {x : Str} {xp p : Pos} {e : PySem.Expr} {es : List PySem.Expr} {f : Value} {avs : List AV} {r : AV} (hf : EvTo w C ρ μ (.Name x xp) (.val f)) (ha : ArgsTo w C ρ μ p (e :: es) avs) (hc : CallsToP w C.d PP f avs r) (hcal : Cal w f) (hp : PP C.h₀) (hg : ∀ h h', PP h → Grow h h' → PP h')
    (he : starEach (e :: es) C.env = (false, eval e C.env) :: starEach es C.env := by rfl) (hplain : (backTo p (starEach es C.env)).any (·.1) = false := by rfl) : EvTo w C ρ μ (.Call (.Name x xp) (e :: es) [] p) r :=
  fun A s Q E hr h1 R hQ => by
    show wpAny _ _ (do callWith p (← eval (.Name x xp) C.env) [] (backTo p (starEach (e :: es) C.env)) (backToKw p (keywordEach [] C.env))) _ _ _
    refine wpAny_bind (hf A s _ _ hr h1 R fun v h' tk h1' g k => ?_)
    rw [vr_val k]
    have R' := R.grow g
    have run : wpAny (model PR w) A (spliced (backTo p (starEach (e :: es) C.env))) (fun vs s₁ => (∃ h'', Grow h' h'' ∧ s₁.heap = h'') ∧ wpAny (model PR w) A (PySem.call f vs) Q E s₁) E { s with heap := h', toks := tk } :=
      ha A _ _ _ hr h1' R' fun vs h'' tk' h1'' g' xs => ⟨⟨h'', g', rfl⟩, hc A _ (exs C μ) vs Q E hr h1'' (R'.ok.base.grow (R'.keep.trans g')) (hg _ _ hp (R'.keep.trans g')) (R'.grow g').alive xs fun v' h3 tk3 h13 g3 x3 => hQ v' h3 tk3 h13 ((g.trans g').trans g3) x3⟩
    rw [he] at run ⊢
    have hpl : ((backTo p ((false, eval e C.env) :: starEach es C.env))).any (·.1) = false := by
      show (false || (backTo p (starEach es C.env)).any (·.1)) = false
      rw [hplain]; rfl
    rcases hcal with ⟨id, rfl⟩ | ⟨T, rfl⟩ | ⟨a, o, fd, rfl, ho, hd⟩
    · exact Calls.callWith_builtin hpl (Calls.evalArgs_plain (wpAny_mono run (fun vs s₁ h => h.2) fun _ _ x => x))
    · exact PyProof.Rows.callWith_type hpl (Calls.evalArgs_plain (wpAny_mono run (fun vs s₁ h => h.2) fun _ _ x => x))
    · refine Calls.callWith_function (o := o) (fd := fd) (Calls.evalArgs_plain (wpAny_mono run (fun vs s₁ h => ⟨⟨?_, hd⟩, h.2⟩) fun _ _ x => x))
      obtain ⟨⟨h'', g', e'⟩, _⟩ := h
      rw [e']
      exact g' _ _ (R'.keep _ _ (R'.ok.base.kin _ _ ho))
theorem EvTo.slicesc {value : PySem.Expr} {lo hi : Option PySem.Expr} {q p : Pos} {a : Addr} {ns : List Int} {i j : Option Int} (h : EvTo w C ρ μ value (.val (.ref a))) (hS : Scr a ns C.h₀) (hlen : ns.length ≤ LIM) (hl : PartTo w C ρ μ lo i) (hh : PartTo w C ρ μ hi j) :
    EvTo w C ρ μ (.Subscript value (.Slice lo hi Option.none q) p) (.list ((sl ns i j).map AV.int)) :=
  fun A s Q E hr h1 R hQ => tok1 h1 (Subscript_ (h A s _ _ hr h1 R fun v h' tk h1' g k => by
    obtain rfl := vr_val k
    refine wpAny_Slice (hl.run hr h1' (R.grow g) fun v1 h2 tk2 h12 g2 k1 => hh.run hr h12 ((R.grow g).grow g2) fun v2 h3 tk3 h13 g3 k2 => ?_)
    rw [evalPart_none]
    refine wpAny_pure ?_
    have g03 := (g.trans g2).trans g3
    obtain ⟨vs, hL0, hi0⟩ := hS.grow ((R.keep.trans g03).trans (Grow.push h3 { cls := .type "slice", data := .fields #[v1, v2, .none] }))
    have hL : Heap.IsList (h3.push { cls := .type "slice", data := .fields #[v1, v2, .none] }) a vs.toArray := hL0
    have kvs : VRs (fz (exs C μ) h3) (ns.map AV.int) vs := ints_vrs hi0
    have klen : vs.length = ns.length := by simpa using kvs.length
    refine tail_any (ops := [.ref h3.objs.size, .ref a]) hL.typeIs slot_list_getitem.lookup (wpAny_getItem_list_slice hL (Heap.IsSliceOf.new ..) k1 k2 .none (by simp) ?_ ?_) rfl
    · intro h14
      rw [slicePick_sl]
      have g4 := g03.trans (Grow.push h3 { cls := .type "slice", data := .fields #[v1, v2, .none] })
      have g5 := g4.trans (Grow.push (h3.push { cls := .type "slice", data := .fields #[v1, v2, .none] }) (listObj (sl vs i j) 0))
      have e : (sl ns i j).map AV.int = sl (ns.map AV.int) i j := by unfold sl; simp
      refine hQ _ _ tk3 h13 g5 (vr_list' (n := 0) (fz_of ?_ (Heap.get?_push_size _ rfl)) ?_ (by rw [List.length_map]; exact Nat.le_trans (sl_len _ _ _) hlen))
      · exact new_not (R.grow g4)
      · rw [e]; exact VRs.grow (ex := exs C μ) (kvs.sl i j) ((Grow.push _ _).trans (Grow.push _ _))
    · show vs.toArray.size ≤ sizeLine
      rw [List.size_toArray, klen]; exact lim_size hlen))
end
end Mine
end

section
open PySem PySem.W PyProof.Rows
set_option Elab.async false
set_option maxRecDepth 100000
set_option linter.all false
namespace Mine
section
variable {w : World} {C : Fc} {ρ : Rho} {μ : Mu}
-- cells
theorem EvTo.cell {x : Str} {p : Pos} {c : Addr} {av : AV} (hm : (c, MO.cell (some av)) ∈ μ) (hk : C.env.kindOf x = some .cell := by rfl) (hc : C.env.cells.lookup x = some c := by rfl) (hd : (x == ("__debug__" : Str)) = false := by decide) : EvTo w C ρ μ (.Name x p) av :=
  TTo.leaf fun _ s _ _ _ _ R hQ => by
    obtain ⟨o, e, u, hu, k⟩ := R.mus _ hm
    exact wpAny_Name (wpAny_loadName_cell R.ok.kind hk hc ⟨o, e, hu⟩ (hQ u s.heap s.toks (Grow.refl _) k)) hd
noncomputable def ItTo (w : World) (C : Fc) (ρ : Rho) (μ : Mu) (e : PySem.Expr) (xs : List AV) : Prop :=
  ∀ (A : Around) (s : Shared) (Q E : Value → Shared → Prop), Room C.d A → 1 ≤ s.toks → Rel w C ρ μ s.heap →
    (∀ it its J h' tk, 1 ≤ tk → Grow s.heap h' → Nx w C its it J xs → J 0 (fz (exs C μ) h') → (∀ a ∈ its, s.heap.get? a = Option.none) →
      (∀ (A : Around) (s : Shared) (Q E : Value → Shared → Prop) (ex : List Addr), J 0 (fz ex s.heap) → Q (.ref it) s → wpAny (model PR w) A (pyIter (.ref it)) Q E s) → Q (.ref it) { s with heap := h', toks := tk }) →
    wpAny (model PR w) A (eval e C.env) (fun xv s₁ => wpAny (model PR w) A (pyIter xv) Q E s₁) E s
theorem size_none {h h' : Heap} (g : Grow h h') : h.get? h'.objs.size = Option.none := by
  cases q : h.get? h'.objs.size with
  | none => rfl
  | some o => exact absurd (Heap.lt_size (g _ _ q)) (Nat.lt_irrefl _)
theorem ItTo.list {e : PySem.Expr} {xs : List AV} (h : EvTo w C ρ μ e (.list xs)) : ItTo w C ρ μ e xs :=
  fun A s Q E hr h1 R hQ => h A s _ _ hr h1 R fun v h' tk h1' g k => by
    obtain ⟨l, vs, n, rfl, e, kv, hl⟩ := vr_list k
    have R' := R.grow g
    refine wpAny_pyIter_list (items := vs.toArray) ⟨_, fz_get e, rfl, n, rfl⟩ ?_
    have gp := Grow.push h' { cls := .type "list_iterator", data := .fields #[.ref l, .int 0 0] }
    refine hQ _ [h'.objs.size] _ _ tk h1' (g.trans gp) nx_list ⟨⟨_, fz_of (new_not R') (Heap.get?_push_size _ rfl), rfl, rfl⟩, vs, n, gp.fz _ _ _ e, kv.grow gp⟩ ?_ ?_
    · intro a ha
      rw [List.mem_singleton] at ha; subst ha
      exact size_none g
    · rintro A s Q E ex ⟨⟨o, e, c, d⟩, _⟩ hq
      exact wpAny_pyIter_listiter ⟨o, fz_get e, c, d⟩ hq
theorem ItTo.range {cp np : Pos} {e : PySem.Expr} {n : Nat} (hf : EvTo w C ρ μ (.Name (Str.ofString "range") np) (.val (.type "range"))) (hi : EvTo w C ρ μ e (.int n)) (hn : n ≤ LIM)
    (he : starEach [e] C.env = (false, eval e C.env) :: starEach [] C.env := by rfl) : ItTo w C ρ μ (.Call (.Name (Str.ofString "range") np) [e] [] cp) (rangeOf n) :=
  fun A s Q E hr h1 R hQ => by
    show wpAny _ _ (do callWith cp (← eval (.Name (Str.ofString "range") np) C.env) [] (backTo cp (starEach [e] C.env)) (backToKw cp (keywordEach [] C.env))) _ _ _
    refine wpAny_bind (hf A s _ _ hr h1 R fun v h' tk h1' g kf => ?_)
    rw [vr_val kf, he]
    refine PyProof.Rows.callWith_type rfl (Calls.evalArgs_plain (Calls.spliced_cons (hi A _ _ _ hr h1' (R.grow g) fun v2 h2 tk2 h12 g2 k2 => Calls.spliced_nil ?_)))
    obtain ⟨t, rfl⟩ := vr_int k2
    have R2 := (R.grow g).grow g2
    refine call_range_1 ?_
    refine wpAny_pyIter_range (a := 0) (b := n) (c := 1) (Heap.get?_push_size _ rfl) (small_range hn).1 ?_
    rw [(small_range hn).2]
    have g3 := Grow.push h2 { cls := .type "range", data := .fields #[.int 0 tk2, .int n t, .int 1 (tk2 + 1)] }
    have R3 := R2.grow g3
    have g4 := Grow.push (h2.push { cls := .type "range", data := .fields #[.int 0 tk2, .int n t, .int 1 (tk2 + 1)] }) { cls := .type "range_iterator", data := .fields #[rawInt 0, rawInt n, rawInt 1] }
    have g03 := (g.trans g2).trans g3
    refine hQ _ [_] _ _ _ (by show 1 ≤ tk2 + 1 + 1; (first | lia | omega)) (g03.trans g4) nx_range ⟨Nat.zero_le _, fz_of (new_not R3) (Heap.get?_push_size _ rfl)⟩ ?_ ?_
    · intro a ha
      rw [List.mem_singleton] at ha; subst ha
      exact size_none g03
    · rintro A s Q E ex ⟨_, e⟩ hq
      exact wpAny_pyIter_rangeiter (fz_get e) hq

theorem MRel.keep {F F' : Addr → Option Obj} {h h' : Heap} {a : Addr} {mo : MO} (hF : ∀ a o, F a = some o → F' a = some o) (hk : ∀ o, h.get? a = some o → h'.get? a = some o) (x : MRel F h a mo) : MRel F' h' a mo := by
  cases mo with
  | list xs => obtain ⟨vs, n, e, r, l⟩ := x; exact ⟨vs, n, hk _ e, VRs.mono hF _ _ r, l⟩
  | dict fs => obtain ⟨m, ⟨o, es, ep, e, z⟩, r, q⟩ := x; exact ⟨m, ⟨o, es, ep, hk _ e, z⟩, fun y av hy => let ⟨v, hv, k⟩ := r y av hy; ⟨v, hv, VR.mono hF _ _ k⟩, q⟩
  | cell v => cases v with
    | none => obtain ⟨o, e, r⟩ := x; exact ⟨o, hk _ e, r⟩
    | some av => obtain ⟨o, e, u, r, k⟩ := x; exact ⟨o, hk _ e, u, r, VR.mono hF _ _ k⟩
theorem Rel.weak {ρ' : Rho} {h : Heap} (R : Rel w C ρ μ h) (hs : ∀ y av, ρ'.lookup y = some av → ρ.lookup y = some av) : Rel w C ρ' μ h :=
  ⟨R.ok, R.keep, let ⟨m, hm, r⟩ := R.ns; ⟨m, hm, fun y av e => r y av (hs y av e)⟩, R.mus, R.new, R.nd, R.dj, R.alive⟩

noncomputable def Fc.comp (C : Fc) (scope : Scope) (cl : List (Str × Addr)) (h₀ : Heap) (L : Addr) : Fc := ⟨h₀, compEnvC scope cl L C.env, C.env.locals :: C.ex0, C.d⟩
noncomputable def TsTo (w : World) (C : Fc) (ρ : Rho) (μ : Mu) (ifs : List PySem.Expr) (b : Bool) : Prop := match ifs with
  | [] => b = true
  | [c] => TrTo w C ρ μ c b
  | _ => False
theorem exs_comp {scope : Scope} {cl : List (Str × Addr)} {h₀ : Heap} {L D : Addr} {mo : MO} : ∀ a, a ∈ exs (C.comp scope cl h₀ L) ((D, mo) :: μ) ↔ a = L ∨ a = D ∨ a ∈ exs C μ := fun a => by
  simp only [exs, own, Fc.comp, compEnvC, List.map_cons, List.mem_append, List.mem_cons]
  constructor
  · rintro ((q | q | q) | q | q) <;> simp [q]
  · rintro (q | q | (q | q) | q) <;> simp [q]
theorem filterMap_succ {ys : Nat → Option AV} (i : Nat) : (List.range (i + 1)).filterMap ys = (List.range i).filterMap ys ++ (ys i).toList := by
  rw [List.range_succ, List.filterMap_append]
  cases h : ys i <;> simp [h]
theorem filterMap_len {ys : Nat → Option AV} (i : Nat) : ((List.range i).filterMap ys).length ≤ i := by
  have := List.length_filterMap_le ys (List.range i)
  simpa using this

theorem comp_core {elt iter : PySem.Expr} {x : Str} {px : Pos} {ifs : List PySem.Expr} {scope : Scope} {cl : List (Str × Addr)} {pos : Pos} {xs : List AV} {ys : Nat → Option AV}
    (ht : ∀ (h₀ : Heap) (L D : Addr) (i : Nat) (av : AV) (acc : List AV), xs[i]? = some av → TsTo w (C.comp scope cl h₀ L) [(x, av)] ((D, MO.list acc) :: μ) ifs (ys i).isSome)
    (he : ∀ (h₀ : Heap) (L D : Addr) (i : Nat) (av y : AV) (acc : List AV), xs[i]? = some av → ys i = some y → EvTo w (C.comp scope cl h₀ L) [(x, av)] ((D, MO.list acc) :: μ) elt y)
    (hxl : xs.length ≤ LIM) (hcell : ∀ y ∈ scope.names, y.2 ≠ .cell) (hkind : scope.kind = .function) (hx : scope.names.lookup x = some .local)
    {A : Around} {hb : Heap} {s : Shared} {E : Value → Shared → Prop} {it : Addr} {its : List Addr} {J : Nat → (Addr → Option Obj) → Prop} {RR : Value → Addr → Result → Shared → Prop}
    (hr : Room C.d A) (h1 : 1 ≤ s.toks) (R : Rel w C ρ μ hb) (g : Grow hb s.heap) (N : Nx w C its it J xs) (hJ : J 0 (fz (exs C μ) s.heap)) (hits : ∀ a ∈ its, hb.get? a = Option.none)
    (hself : ∀ (A : Around) (s : Shared) (Q E : Value → Shared → Prop) (ex : List Addr), J 0 (fz ex s.heap) → Q (.ref it) s → wpAny (model PR w) A (pyIter (.ref it)) Q E s)
    (hRR : ∀ D L h' tk vs n, 1 ≤ tk → hb.get? D = Option.none → hb.get? L = Option.none → D ≠ L → D ∉ exs C μ → L ∉ exs C μ → Grow hb h' → (∃ m, h'.Ns L m) → h'.get? D = some (listObj vs n) →
      (∀ h'', (∀ b o, b ≠ L → h'.get? b = some o → h''.get? b = some o) → VR (fz (exs C μ) h'') (.list ((List.range xs.length).filterMap ys)) (.ref D)) → RR (.ref D) L (.ok .next) { s with heap := h', toks := tk }) :
    wpAny (model PR w) A (newList []) (fun acc s₃ => wpAny (model PR w) A (newFunctionEnv scope C.env.globals cl [] C.env.qual none .none (some C.env)) (fun cenv s₄ =>
      codeAny (model PR w) A (.compStart (.ListComp elt [⟨.Name x px, iter, ifs, 0⟩] scope pos) 0 (.ref it) acc { cenv with scope := relabel scope C.env }) (RR acc cenv.locals) s₄) E s₃) E s := by
  refine wpAny_newObj_type (wpAny_newFunctionEnv hcell (by intro y hy; simp at hy) (fun h₁ hns₁ hsb₁ => ?_) hkind)
  dsimp only at hns₁ hsb₁ ⊢
  generalize hH2 : s.heap.push { cls := .type "list", dict := none, data := .seq ([] : List Value).toArray } = H2 at hns₁ hsb₁ ⊢
  have hL : H2.objs.size = s.heap.objs.size + 1 := by rw [← hH2, Heap.size_push]
  have gD : Grow s.heap H2 := by rw [← hH2]; exact Grow.push _ _
  have eD : H2.get? s.heap.objs.size = some (listObj [] 0) := by rw [← hH2]; exact Heap.get?_push_size _ rfl
  have hDL : s.heap.objs.size ≠ H2.objs.size := by rw [hL]; exact Nat.ne_of_lt (Nat.lt_succ_self _)
  have g1 : Grow H2 h₁ := fun b o e => hsb₁.extBut b o (Nat.ne_of_lt (Heap.lt_size e)) (Heap.get?_push_of_some _ e)
  have gs : Grow s.heap h₁ := gD.trans g1
  have nL : s.heap.get? H2.objs.size = Option.none := size_none gD
  have nD : s.heap.get? s.heap.objs.size = Option.none := get?_size_none _
  generalize s.heap.objs.size = D at *
  generalize H2.objs.size = L at *
  have exL : L ∉ exs C μ := fun q => by obtain ⟨o, e⟩ := R.alive _ q; rw [g _ _ e] at nL; cases nL
  have exD : D ∉ exs C μ := fun q => by obtain ⟨o, e⟩ := R.alive _ q; rw [g _ _ e] at nD; cases nD
  have bL : hb.get? L = Option.none := by cases q : hb.get? L with | none => rfl | some o => rw [g _ _ q] at nL; cases nL
  have bD : hb.get? D = Option.none := by cases q : hb.get? D with | none => rfl | some o => rw [g _ _ q] at nD; cases nD
  have hb1 : Grow hb h₁ := g.trans gs
  let Ci : Fc := C.comp scope cl (hideAll hb (own C μ)) L
  have hexs : ∀ acc a, a ∈ exs Ci ((D, MO.list acc) :: μ) ↔ a = L ∨ a = D ∨ a ∈ exs C μ := fun acc => exs_comp
  have Rn := R.now
  have hnd := R.nd
  have R1 : Rel w Ci [] ((D, MO.list []) :: μ) h₁ := by
    have hF : ∀ a o, fz (exs C μ) hb a = some o → fz (exs Ci ((D, MO.list []) :: μ)) h₁ a = some o := fun a o e => by
      refine fz_of (fun q => ?_) (hb1 _ _ (fz_get e))
      rcases (hexs [] a).mp q with rfl | rfl | q
      · rw [fz_get e] at bL; cases bL
      · rw [fz_get e] at bD; cases bD
      · exact fz_not e q
    refine ⟨⟨Rn.ok.base, by show (relabel scope C.env).kind = _; exact hkind, R.ok.glob, R.ok.blt⟩, fun b o e => hb1 b o (of_hideAll _ e), ⟨_, hns₁, fun y av e => by cases e⟩, ?_, ?_, ?_, ?_, ?_⟩
    · intro p hp
      rcases List.mem_cons.mp hp with rfl | hp
      · exact ⟨[], 0, g1 _ _ eD, VRs.nil, Nat.zero_le _⟩
      · exact MRel.keep hF (fun o e => hb1 _ _ e) (R.mus p hp)
    · intro a ha
      show (hideAll hb (own C μ)).get? a = Option.none
      have ha : a = L ∨ a = D ∨ a ∈ μ.map (·.1) := by simpa [own, Ci, Fc.comp, compEnvC] using ha
      rcases ha with rfl | rfl | ha
      · cases q : (hideAll hb (own C μ)).get? a with | none => rfl | some o => rw [of_hideAll _ q] at bL; cases bL
      · cases q : (hideAll hb (own C μ)).get? a with | none => rfl | some o => rw [of_hideAll _ q] at bD; cases bD
      · exact hideAll_none _ (by unfold own; exact List.mem_cons_of_mem _ ha)
    · unfold own at hnd ⊢
      rw [List.nodup_cons] at hnd
      rw [List.map_cons, List.nodup_cons, List.nodup_cons]
      refine ⟨fun q => ?_, fun q => exD (by unfold exs own; exact List.mem_append_left _ (List.mem_cons_of_mem _ q)), hnd.2⟩
      rcases List.mem_cons.mp q with q | q
      · exact hDL q.symm
      · exact exL (by unfold exs own; exact List.mem_append_left _ (List.mem_cons_of_mem _ q))
    · intro a ha q
      have ha : a = L ∨ a = D ∨ a ∈ μ.map (·.1) := by simpa [own, Ci, Fc.comp, compEnvC] using ha
      have q : a = C.env.locals ∨ a ∈ C.ex0 := by simpa [Ci, Fc.comp] using q
      have qx : a ∈ exs C μ := by
        unfold exs own
        rcases q with rfl | q
        · simp
        · exact List.mem_append_right _ q
      rcases ha with rfl | rfl | ha
      · exact exL qx
      · exact exD qx
      · rcases q with rfl | q
        · unfold own at hnd; exact (List.nodup_cons.mp hnd).1 ha
        · exact R.dj a (by unfold own; exact List.mem_cons_of_mem _ ha) q
    · intro a ha
      rcases (hexs [] a).mp ha with rfl | rfl | ha
      · obtain ⟨o, _, _, e, _⟩ := hns₁; exact ⟨o, e⟩
      · exact ⟨_, g1 _ _ eD⟩
      · obtain ⟨o, e⟩ := R.alive a ha; exact ⟨o, hb1 _ _ e⟩
  have hfz : ∀ acc acc', exs Ci ((D, MO.list acc) :: μ) = exs Ci ((D, MO.list acc') :: μ) := fun _ _ => rfl
  have J1 : J 0 (fz (exs Ci ((D, MO.list []) :: μ)) h₁) := N.mono _ _ _ hJ fun a o e => by
    refine fz_of (fun q => ?_) (gs _ _ (fz_get e))
    rcases (hexs [] a).mp q with rfl | rfl | q
    · rw [fz_get e] at nL; cases nL
    · rw [fz_get e] at nD; cases nD
    · exact fz_not e q
  have Lin : ∀ acc, L ∈ exs Ci ((D, MO.list acc) :: μ) := fun acc => (hexs acc L).mpr (.inl rfl)
  have Din : ∀ acc, D ∈ exs Ci ((D, MO.list acc) :: μ) := fun acc => (hexs acc D).mpr (.inr (.inl rfl))
  have hxk : Ci.env.kindOf x = some .local := lookup_relabel_local hx
  have loop : ∀ s₃ : Shared, s₃ = { s with heap := h₁, toks := s.toks + ([] : List (Str × Value)).length } →
      codeAny (model PR w) A (.compLoop (.ListComp elt [⟨.Name x px, iter, ifs, 0⟩] scope pos) 0 (.ref it) (.ref D) (compEnvC scope cl L C.env)) (RR (.ref D) L) s₃ := by
    rintro s₃ rfl
    refine codeAny_compLoop_tests (fun n s' => ∃ i ρ' h' tk, s' = { s with heap := h', toks := tk } ∧ n = xs.length - i ∧ i ≤ xs.length ∧ 1 ≤ tk ∧ Grow hb h' ∧ Rel w Ci ρ' ((D, MO.list ((List.range i).filterMap ys)) :: μ) h' ∧ J i (fz (exs Ci ((D, MO.list []) :: μ)) h')) ?_ xs.length
      ⟨0, [], h₁, s.toks, rfl, rfl, Nat.zero_le _, h1, hb1, R1, J1⟩ (fun _ => rfl)
    rintro n s' ⟨i, ρ', h', tk, rfl, rfl, hi, h1', gb, R', hJ'⟩
    have hn : ∀ a ∈ its, a ∉ exs Ci ((D, MO.list ((List.range i).filterMap ys)) :: μ) ∧ Ci.h₀.get? a = Option.none ∧ NoSeq h' a := fun a hm => by
      obtain ⟨o, e, n1, n2⟩ := N.has i _ hJ' a hm
      refine ⟨fz_not e, ?_, fun vs n q => ?_, fun vs n q => ?_⟩
      · cases q : Ci.h₀.get? a with
        | none => rfl
        | some o => have := of_hideAll _ (show (hideAll hb (own C μ)).get? a = some o from q); rw [hits a hm] at this; cases this
      · rw [fz_get e] at q; exact n1 vs n (Option.some.inj q)
      · rw [fz_get e] at q; exact n2 vs n (Option.some.inj q)
    refine tok1 h1' (N.next i A _ (exs Ci ((D, MO.list []) :: μ)) _ _ hr.2.2 h1' hJ' (fun u v h'' tk' hu hg hJ'' kv => ?_) (fun h'' tk' hu hg => ?_))
    · intro h1''
      have hlen : i < xs.length := by
        rcases Nat.lt_or_ge i xs.length with q | q
        · exact q
        · rw [List.getElem?_eq_none q] at hu; cases hu
      have R2 : Rel w Ci ρ' ((D, MO.list ((List.range i).filterMap ys)) :: μ) h'' := R'.turn hg hn
      have gb2 : Grow hb h'' := fun b o e => hg b o (fun q => by rw [hits b q] at e; cases e) (gb b o e)
      refine wpAny_assign_Name ?_
      obtain ⟨m, hm, hro⟩ := R2.ns
      refine tok1 h1'' (wpAny_storeName_local hxk hm (fun h3 hn3 hs3 => ?_) (by rw [show (compEnvC scope cl L C.env).scope.kind = .function from R2.ok.kind]; rfl))
      intro h13
      have R3 := (R2.store kv hm hro hn3 hs3).weak (ρ' := [(x, u)]) (fun y av e => by
        rw [put_lookup]
        rw [List.lookup_cons] at e
        by_cases q : y = x
        · subst q; simpa using e
        · have : (y == x) = false := beq_eq_false_iff_ne.mpr q
          rw [this] at e; cases e)
      have gb3 : Grow hb h3 := fun b o e => (hs3.2 b (fun q => by rw [q] at e; have : hb.get? L = some o := e; rw [bL] at this; cases this)).trans (gb2 b o e)
      have hJ3 : J (i + 1) (fz (exs Ci ((D, MO.list []) :: μ)) h3) := N.mono _ _ _ hJ'' fun a o e => fz_of (fz_not e) ((hs3.2 a (fun q => fz_not e (q ▸ Lin []))).trans (fz_get e))
      have T : BTo w Ci [(x, u)] ((D, MO.list ((List.range i).filterMap ys)) :: μ) (forIn ifs true fun c r => if r = true then do let ok ← isTrue c Ci.env (eval c Ci.env); pure (ForInStep.yield ok) else pure (ForInStep.yield r)) (ys i).isSome := by
        have := ht (hideAll hb (own C μ)) L D i u ((List.range i).filterMap ys) hu
        match ifs, this with
        | [], h => have h : (ys i).isSome = true := h; rw [h]; exact fun A s Q E hr h1 R hQ => wpAny_tests_nil (hQ s.heap s.toks h1 (Grow.refl _))
        | [c], h => exact fun A s Q E hr h1 R hQ => wpAny_tests_one (h A s _ _ hr h1 R fun h' tk h1 g => hQ h' tk h1 g)
      refine T A _ _ _ hr h13 R3 fun h4 tk4 h14 g4 => ?_
      have R4 := R3.grow g4
      have gb4 := gb3.trans g4
      have hJ4 : J (i + 1) (fz (exs Ci ((D, MO.list []) :: μ)) h4) := N.mono _ _ _ hJ3 (g4.fz _)
      cases hy : ys i with
      | none =>
        refine ⟨xs.length - (i + 1), by (first | lia | omega), i + 1, [(x, u)], h4, tk4, rfl, rfl, hlen, h14, gb4, ?_, hJ4⟩
        rw [filterMap_succ, hy]; simpa using R4
      | some y =>
        refine he (hideAll hb (own C μ)) L D i u y ((List.range i).filterMap ys) hu hy A _ _ _ hr h14 R4 fun v5 h5 tk5 h15 g5 k5 => ?_
        have R5 := R4.grow g5
        have gb5 := gb4.trans g5
        obtain ⟨vs, n, ea, kvs, hl'⟩ := R5.mlist (a := D) (xs := (List.range i).filterMap ys) (by simp)
        have hlv := kvs.length
        have hfl := filterMap_len (ys := ys) i
        refine append_at (D := D) (its := vs.toArray) (n := n) ea (fun h6 hs6 e6 => ?_) (by rw [List.size_toArray, hlv]; exact lim_size (by (first | lia | omega)))
        refine ⟨xs.length - (i + 1), by (first | lia | omega), i + 1, [(x, u)], h6, tk5, rfl, rfl, hlen, h15, fun b o e => (hs6.2 b (fun q => by rw [q, bD] at e; cases e)).trans (gb5 b o e), ?_, N.mono _ _ _ (N.mono _ _ _ hJ4 (g5.fz _)) fun a o e => fz_of (fz_not e) ((hs6.2 a (fun q => fz_not e (q ▸ Din []))).trans (fz_get e))⟩
        rw [filterMap_succ, hy]
        exact R5.mset (pre := []) hs6 (us := vs ++ [v5]) (n := n + 1) (by rw [e6]; simp) (kvs.append (VRs.cons k5 VRs.nil)) (by simp; (first | lia | omega))
    · intro h1''
      have hlen : i = xs.length := by
        rcases Nat.lt_or_ge i xs.length with q | q
        · rw [List.getElem?_eq_getElem q] at hu; cases hu
        · (first | lia | omega)
      subst hlen
      have R2 := R'.turn hg hn
      obtain ⟨vs, n, ea, kvs, hl'⟩ := R2.mlist (a := D) (xs := (List.range xs.length).filterMap ys) (by simp)
      obtain ⟨m, hm, _⟩ := R2.ns
      refine hRR D L h'' tk' vs n h1'' bD bL hDL exD exL (fun b o e => hg b o (fun q => by rw [hits b q] at e; cases e) (gb b o e)) ⟨m, hm⟩ ea fun h3 hk => ?_
      refine vr_list' (n := n) (fz_of exD (hk D _ hDL ea)) (VRs.mono (fun a o e => ?_) _ _ kvs) hl'
      have na := fz_not e
      rw [hexs] at na
      exact fz_of (fun q => na (.inr (.inr q))) (hk a o (fun q => na (.inl q)) (fz_get e))
  exact codeAny_compStart_list (loop _ rfl) (hself _ _ _ _ _ J1 (loop _ rfl))

theorem EvTo.comp {elt iter : PySem.Expr} {x : Str} {px : Pos} {ifs : List PySem.Expr} {scope : Scope} {pos : Pos} {xs : List AV} (cl : List (Str × Addr)) (ys : Nat → Option AV) (hi : ItTo w C ρ μ iter xs)
    (ht : ∀ (h₀ : Heap) (L D : Addr) (i : Nat) (av : AV) (acc : List AV), xs[i]? = some av → TsTo w (C.comp scope cl h₀ L) [(x, av)] ((D, MO.list acc) :: μ) ifs (ys i).isSome)
    (he : ∀ (h₀ : Heap) (L D : Addr) (i : Nat) (av y : AV) (acc : List AV), xs[i]? = some av → ys i = some y → EvTo w (C.comp scope cl h₀ L) [(x, av)] ((D, MO.list acc) :: μ) elt y)
    (hxl : xs.length ≤ LIM) (hclos : closureFor scope C.env = pure cl) (hcell : ∀ y ∈ scope.names, y.2 ≠ .cell) (hkind : scope.kind = .function) (hnames : ∀ y ∈ scope.names, y.2 = .local → scope.names.lookup y.1 = some .local) (hx : scope.names.lookup x = some .local)
    (hs : ∀ x, foldedSetIterable iter C.env x = pure x := by intro _; rfl) :
    EvTo w C ρ μ (.ListComp elt [⟨.Name x px, iter, ifs, 0⟩] scope pos) (.list ((List.range xs.length).filterMap ys)) :=
  fun A s Q E hr h1 R hQ => by
    rw [eval_ListComp]
    refine wpAny_comprehension_free (use := none) rfl hs hclos hkind hnames (hi A s _ _ hr h1 R fun it its J h' tk h1' g N hJ hits hself => ?_)
    refine comp_core (RR := fun acc C => compPost (model PR w) A E none Q acc C) ht he hxl hcell hkind hx hr h1' R g N hJ hits hself ?_
    intro D L h2 tk2 vs n h12 bD bL hDL exD exL gb ⟨m, hm⟩ ea hv
    refine ⟨m, hm, fun h3 hs3 => ?_⟩
    exact hQ _ h3 tk2 h12 (fun b o e => (hs3.2 b (fun q => by rw [q, bL] at e; cases e)).trans (gb b o e)) (hv h3 fun b o hb e => (hs3.2 b hb).trans e)
theorem X1To.assignc {elt iter : PySem.Expr} {x y : Str} {px py spos : Pos} {ifs : List PySem.Expr} {scope : Scope} {pos : Pos} {xs : List AV} (cl : List (Str × Addr)) (ys : Nat → Option AV) (hi : ItTo w C ρ μ iter xs)
    (ht : ∀ (h₀ : Heap) (L D : Addr) (i : Nat) (av : AV) (acc : List AV), xs[i]? = some av → TsTo w (C.comp scope cl h₀ L) [(x, av)] ((D, MO.list acc) :: μ) ifs (ys i).isSome)
    (he : ∀ (h₀ : Heap) (L D : Addr) (i : Nat) (av y : AV) (acc : List AV), xs[i]? = some av → ys i = some y → EvTo w (C.comp scope cl h₀ L) [(x, av)] ((D, MO.list acc) :: μ) elt y)
    (hxl : xs.length ≤ LIM) (hclos : closureFor scope C.env = pure cl) (hcell : ∀ y ∈ scope.names, y.2 ≠ .cell) (hkind : scope.kind = .function) (hnames : ∀ y ∈ scope.names, y.2 = .local → scope.names.lookup y.1 = some .local) (hx : scope.names.lookup x = some .local)
    (hy : C.env.kindOf y = some .local := by rfl) (hs : ∀ x, foldedSetIterable iter C.env x = pure x := by intro _; rfl)
    (hsw : swapsWith (.ListComp elt [⟨.Name x px, iter, ifs, 0⟩] scope pos) (some (.Name y py)) spos.line C.env = pure true := by rfl) :
    X1To w C ρ μ (.Assign [.Name y py] (.ListComp elt [⟨.Name x px, iter, ifs, 0⟩] scope pos) spos) (· = .next (put ρ y (.list ((List.range xs.length).filterMap ys))) μ) :=
  fun A s Q E hr h1 R hQ => by
    have E0 := exec_Assign_Name_used y py (.ListComp elt [⟨.Name x px, iter, ifs, 0⟩] scope pos) spos (env := C.env) hsw
    show wpAny (model PR w) A (exec (PySem.Stmt.Assign [.Name y py] (.ListComp elt [⟨.Name x px, iter, ifs, 0⟩] scope pos) spos) C.env) _ _ _
    rw [E0]
    refine wpAny_bind (wpAny_standAt (wpAny_bind ?_))
    show wpAny _ A (do let _ ← comprehension (.ListComp elt [⟨.Name x px, iter, ifs, 0⟩] scope pos) scope C.env _ (newList []) false (eval iter C.env) (some (PySem.assign (PySem.Expr.Name y py) C.env))) _ _ s
    refine wpAny_bind (wpAny_mono (wpAny_comprehension_free (use := some (PySem.assign (PySem.Expr.Name y py) C.env)) (Q := fun _ s' => Q Flow.next s') rfl hs hclos hkind hnames
      (hi A s _ _ hr h1 R fun it its J h' tk h1' g N hJ hits hself => ?_)) (fun _ s' hq => wpAny_pure (wpAny_pure hq)) fun _ _ e => e)
    refine comp_core (RR := fun acc C' => compPost (model PR w) A E (some (PySem.assign (PySem.Expr.Name y py) C.env)) (fun _ s' => Q .next s') acc C') ht he hxl hcell hkind hx hr h1' R g N hJ hits hself ?_
    intro D L h2 tk2 vs n h12 bD bL hDL exD exL gb ⟨m, hm⟩ ea hv
    show wpAny _ A (PySem.assign (PySem.Expr.Name y py) C.env (.ref D)) _ _ _
    refine wpAny_assign_Name ?_
    have R2 := R.grow gb
    obtain ⟨mo, hmo, hro⟩ := R2.ns
    have hlL : C.env.locals ≠ L := fun q => exL (by rw [← q]; unfold exs own; simp)
    refine tok1 h12 (wpAny_storeName_local hy hmo (fun h3 hn3 hs3 => fun h13 => ?_) (by rw [R.ok.kind]; rfl))
    refine ⟨m, hm.sameBut hs3 (Ne.symm hlL), fun h4 hs4 => ?_⟩
    have R3 := R2.store (hv h2 fun b o _ e => e) hmo hro hn3 hs3
    have hnone : C.h₀.get? L = Option.none := by
      cases q : C.h₀.get? L with
      | none => rfl
      | some o => rw [R.keep _ _ q] at bL; cases bL
    have hnoseq : NoSeq h3 L := by
      obtain ⟨o, es, ep, e, d, _⟩ := hm.sameBut hs3 (Ne.symm hlL)
      exact ⟨fun vs n q => (by rw [q] at e; cases e; cases d), fun vs n q => (by rw [q] at e; cases e; cases d)⟩
    exact hQ _ _ h4 _ h13 rfl ⟨rfl, R3.turn (its := [L]) (fun b o hb e => (hs4.2 b (by simpa using hb)).trans e) (fun a ha => by rw [List.mem_singleton] at ha; subst ha; exact ⟨exL, hnone, hnoseq⟩)⟩
end
end Mine
end

section
open PySem PySem.W PyProof.Rows
set_option Elab.async false
set_option maxRecDepth 100000
set_option linter.all false
namespace Mine
theorem vrs_ints {F : Addr → Option Obj} : ∀ {ns : List Int} {vs : List Value}, VRs F (ns.map AV.int) vs → IntsAre vs ns
  | [], _, h => by unfold VRs at h; subst h; exact .nil
  | n :: ns, _, h => by
    have h' : VRs F (AV.int n :: ns.map AV.int) _ := h
    unfold VRs at h'
    obtain ⟨v, r, rfl, k, ks⟩ := h'
    obtain ⟨t, rfl⟩ := vr_int k
    exact .cons n t (vrs_ints ks)
theorem max_plain {prog : Program} {w : World} {A : Around} {E : Value → Shared → Prop} {s : Shared} {l : Addr} {vs : List Value} {ns : List Int} {Q : Value → Shared → Prop} (hh : A.handled = none)
    (hl : s.heap.IsList l vs.toArray) (hi : IntsAre vs ns) (hne : 0 < ns.length)
    (h : ∀ h' M (t : Tok) tk, Grow s.heap h' → M ∈ ns → (∀ a, a ∈ ns → a ≤ M) → Q (.int M t) { s with heap := h', toks := tk }) :
    wpAny (model prog w) A (call (.builtin "max") [.ref l]) Q E s := by
  obtain ⟨xs, e⟩ := hi.allInts.items
  have hns : ns = xs.toList.map (·.1) := by
    rw [← hi.numsOf, ← nums_intItems, ← e]
  have hsz : 0 < xs.size := by
    have h3 := hne; rw [hns, List.length_map, Array.length_toList] at h3; exact h3
  rw [e] at hl
  refine max_intList hh hl hsz fun v h' tk hv hk => ?_
  obtain ⟨t, rfl⟩ := intItems_at hv
  obtain ⟨h1, h2⟩ := argBest_gt (numAt xs) (xs.size - 1)
  refine h _ _ t tk hk ?_ fun a ha => ?_
  · rw [hns, numAt_eq]; exact getD_mem (by rw [List.length_map, Array.length_toList]; (first | lia | omega))
  · rw [hns] at ha
    obtain ⟨j, hj, rfl⟩ := mem_getD ha
    rw [List.length_map, Array.length_toList] at hj
    rw [← numAt_eq]; exact h2 j (by (first | lia | omega))
section
variable {w : World} {C : Fc} {ρ : Rho} {μ : Mu} {d : Nat}
theorem call_max {ns : List Int} {M : Int} (hM : M ∈ ns) (hle : ∀ a ∈ ns, a ≤ M) : CallsTo w d (.builtin "max") [.list (ns.map AV.int)] (.int M) :=
  CallsTo.leaf fun A s ex vs Q E hroom h1 B hex hvs hQ => by
    obtain ⟨u, rfl, e1⟩ := vrs1 hvs
    obtain ⟨a, us, n, rfl, ea, kv, hl⟩ := vr_list e1
    refine max_plain hroom.2.2 ⟨_, fz_get ea, rfl, n, rfl⟩ (vrs_ints kv) (List.length_pos_of_mem hM) fun h' M' t tk g h2 h3 => ?_
    have : M' = M := Int.le_antisymm (hle _ h2) (h3 _ hM)
    subst this
    exact hQ _ h' tk g vr_int'
theorem starOf_list {A : Around} {s : Shared} {xs : List AV} {v : Value} {ex : List Addr} {E : Value → Shared → Prop} {Q : List Value → Shared → Prop} (k : VR (fz ex s.heap) (.list xs) v)
    (h : ∀ vs h', Grow s.heap h' → VRs (fz ex h') xs vs → Q vs { s with heap := h' }) : StarOf (model PR w) A E v Q s := by
  obtain ⟨a, us, n, rfl, ea, kv, hl⟩ := vr_list k
  have hT' : s.TypeIs (.ref a) "list" := ⟨_, fz_get ea, rfl⟩
  have z : wpAny (model PR w) A (collect (.ref a)) Q E s := wpAny_collect_seq a (.inl rfl) (fz_get ea) rfl rfl (fun h' hk => h us h' hk (kv.grow hk)) (by rw [List.size_toArray, kv.length]; exact lim_size hl)
  unfold StarOf notIterableAtAll
  exact wpAny_bind (wpAny_specialOf hT' PySem.F.slot_list_iter.lookup (wpAny_pure ⟨rfl, z⟩))
theorem ArgsTo.star {p sp : Pos} {e : PySem.Expr} {es : List PySem.Expr} {xs avs : List AV} (h : EvTo w C ρ μ e (.list xs)) (k : ArgsTo w C ρ μ p es avs)
    (he : starEach (.Starred e sp :: es) C.env = (true, eval e C.env) :: starEach es C.env := by rfl) : ArgsTo w C ρ μ p (.Starred e sp :: es) (xs ++ avs) :=
  fun A s Q E hr h1 R hQ => items_star (h A s _ _ hr h1 R fun v h' tk h1' g x => starOf_list x fun vs h2 g2 kv => k A _ _ _ hr h1' ((R.grow g).grow g2) fun vs' h3 tk3 h13 g3 k3 =>
    hQ _ h3 tk3 h13 ((g.trans g2).trans g3) ((kv.grow g3).append k3)) he
theorem EvTo.callS {x : Str} {xp sp p : Pos} {e : PySem.Expr} {a : Addr} {avs : List AV} {r : AV} (hf : EvTo w C ρ μ (.Name x xp) (.val (.ref a))) (h : EvTo w C ρ μ e (.list avs)) (hc : CallsTo w C.d (.ref a) avs r) (hk : keepIn (KF w) (.ref a) = true)
    (he : starEach [.Starred e sp] C.env = [(true, eval e C.env)] := by rfl) : EvTo w C ρ μ (.Call (.Name x xp) [.Starred e sp] [] p) r :=
  fun A s Q E hr h1 R hQ => by
    show wpAny _ _ (do callWith p (← eval (.Name x xp) C.env) [] (backTo p (starEach [.Starred e sp] C.env)) (backToKw p (keywordEach [] C.env))) _ _ _
    refine wpAny_bind (hf A s _ _ hr h1 R fun v h' tk h1' g k => ?_)
    rw [vr_val k]
    have R' := R.grow g
    refine callWith_S (K := KF w) (h₀ := C.h₀) R.ok.base.kin hk (h A _ _ _ hr h1' R' fun v2 h2 tk2 h12 g2 k2 => starOf_list k2 fun vs h3 g3 kv => ?_) he
    have R3 := (R'.grow g2).grow g3
    exact ⟨(R3.ok.base.grow R3.keep).kin, hc A _ (exs C μ) vs Q E hr h12 (R3.ok.base.grow R3.keep) R3.alive kv fun v' h4 tk4 h14 g4 x4 => hQ v' h4 tk4 h14 (((g.trans g2).trans g3).trans g4) x4⟩
theorem EvTo.callS2 {x : Str} {xp p : Pos} {e : PySem.Expr} {es : List PySem.Expr} {a : Addr} {avs : List AV} {r : AV} (hf : EvTo w C ρ μ (.Name x xp) (.val (.ref a))) (ha : ArgsTo w C ρ μ p (e :: es) avs) (hc : CallsTo w C.d (.ref a) avs r) (hk : keepIn (KF w) (.ref a) = true)
    (he : starEach (e :: es) C.env = (false, eval e C.env) :: starEach es C.env := by rfl) (hst : (backTo p (starEach es C.env)).any (·.1) = true := by rfl) : EvTo w C ρ μ (.Call (.Name x xp) (e :: es) [] p) r :=
  fun A s Q E hr h1 R hQ => by
    show wpAny _ _ (do callWith p (← eval (.Name x xp) C.env) [] (backTo p (starEach (e :: es) C.env)) (backToKw p (keywordEach [] C.env))) _ _ _
    refine wpAny_bind (hf A s _ _ hr h1 R fun v h' tk h1' g k => ?_)
    rw [vr_val k]
    have R' := R.grow g
    refine callWith_S2 (K := KF w) (h₀ := C.h₀) R.ok.base.kin hk (ha A _ _ _ hr h1' R' fun vs h2 tk2 h12 g2 kv => ?_) he hst
    have R2 := R'.grow g2
    exact ⟨(R2.ok.base.grow R2.keep).kin, hc A _ (exs C μ) vs Q E hr h12 (R2.ok.base.grow R2.keep) R2.alive kv fun v' h4 tk4 h14 g4 x4 => hQ v' h4 tk4 h14 ((g.trans g2).trans g4) x4⟩
end
theorem enterC {w : World} {d : Nat} {f : Addr} {name qual : Str} {params : Arguments} {body : List Stmt} {scope : Scope} {dV kV doc pm cdv ct oc : Value} {an od : Option Addr} {osl : Array (Option Value)} {a : AV} {r : AV} (x : Str)
    (ho : (KF w).lookup f = some ⟨oc, od, .func (fnOf name qual params body scope dV kV doc pm an cdv ct), osl⟩) (hcd : codeIn (KF w) cdv qual = true)
    (hbind : ∀ v : Value, bindArgs (fnOf name qual params body scope dV kV doc pm an cdv ct) ⟨[v], []⟩ = pure [(x, v)])
    (hx : scope.names.lookup x = some .cell) (hcs : ∀ n, cellsFrom n scope.names [] = [(x, n)])
    (h : ∀ (h₀ : Heap) (L : Addr) (ex : List Addr), ExTo w ⟨h₀, envOfC qual scope L f cdv, ex, d⟩ [] [(L + 1, MO.cell (some a))] body (Back w ⟨h₀, envOfC qual scope L f cdv, ex, d⟩ r))
    (hco : scope.isCoroutine = false) (hgen : scope.isGenerator = false) (hk : scope.kind = .function) : CallsTo w (d + 1) (.ref f) [a] r := by
  intro A s ex vs Q E hroom h1 B hex hvs hQ
  obtain ⟨_, _, _, mg, mb, T⟩ := B.top
  obtain ⟨u, rfl, ku⟩ := vrs1 hvs
  refine wpAny_call ?_
  refine codeAny_call_function (fd := fnOf name qual params body scope dV kV doc pm an cdv ct) (by have := hroom.1.1; (first | lia | omega)) (B.kin _ _ ho) rfl hco hgen rfl (codeRec_of B.kin hcd) ?_
  rw [hbind u]
  refine wpAny_pure (tok1 h1 (wpAny_newFunctionEnv_cells hk ?_ fun env he s₁ X => ?_))
  · intro y hy
    rw [List.mem_singleton] at hy; subst hy
    refine .inr ⟨hx, ?_⟩
    show ((cellsFrom _ scope.names []).lookup x).isSome = true
    rw [hcs]; simp
  · intro h11
    subst he
    refine ⟨T.nolimit.keeps X.toInCall.keep, codeAny_func ?_⟩
    have hc := X.cell x (s.heap.objs.size + 1) (by show (cellsFrom _ scope.names []).lookup x = _; rw [hcs]; simp)
    have hcv : bindC (fun y => scope.names.lookup y) [(x, u)] (fun _ => none) x = some u := by
      show (if scope.names.lookup x = some .local then (fun _ => none) else fun y => if y = x then some u else none) x = some u
      rw [hx]
      simp
    obtain ⟨h₁, tk₁, rfl, hk₁⟩ := X.toInCall.done
    have hns := X.toInCall.ns
    dsimp only at hns hc
    have hnewL : s.heap.get? s.heap.objs.size = none := get?_size_none _
    have hnewC : s.heap.get? (s.heap.objs.size + 1) = none := by
      cases q : s.heap.get? (s.heap.objs.size + 1) with
      | none => rfl
      | some o => exact absurd (Heap.lt_size q) (Nat.not_lt_of_le (Nat.le_succ _))
    obtain ⟨oc', hoc, hoc'⟩ := hc
    have hoc' : oc'.data = .cell (some u) := hoc'.trans (congrArg Data.cell hcv)
    have R : Rel w ⟨s.heap, envOfC qual scope s.heap.objs.size f cdv, ex, d⟩ [] [(s.heap.objs.size + 1, MO.cell (some a))] h₁ := by
      refine ⟨⟨B, hk, rfl, rfl⟩, hk₁, ⟨_, hns, fun y av e => by cases e⟩, ?_, ?_, ?_, ?_, ?_⟩
      · intro p hp
        rw [List.mem_singleton] at hp; subst hp
        refine ⟨oc', hoc, u, hoc', VR.mono (fun b o e => fz_of (fun q => ?_) (hk₁ _ _ (fz_get e))) _ _ ku⟩
        have q : b = s.heap.objs.size ∨ b = s.heap.objs.size + 1 ∨ b ∈ ex := by
          have : b ∈ (s.heap.objs.size :: [s.heap.objs.size + 1]) ++ ex := q
          rcases List.mem_append.mp this with q | q
          · rcases List.mem_cons.mp q with q | q
            · exact .inl q
            · exact .inr (.inl (by simpa using q))
          · exact .inr (.inr q)
        rcases q with rfl | rfl | q
        · rw [fz_get e] at hnewL; cases hnewL
        · rw [fz_get e] at hnewC; cases hnewC
        · exact fz_not e q
      · intro b hb
        have hb : b ∈ [s.heap.objs.size, s.heap.objs.size + 1] := hb
        simp only [List.mem_cons, List.not_mem_nil, or_false] at hb
        rcases hb with rfl | rfl
        · exact hnewL
        · exact hnewC
      · show [s.heap.objs.size, s.heap.objs.size + 1].Nodup
        rw [List.nodup_cons]
        exact ⟨fun q => absurd (List.mem_singleton.mp q) (Nat.ne_of_lt (Nat.lt_succ_self _)), List.nodup_cons.mpr ⟨List.not_mem_nil, List.nodup_nil⟩⟩
      · intro b hb q
        have hb : b ∈ [s.heap.objs.size, s.heap.objs.size + 1] := hb
        obtain ⟨o, e⟩ := hex b q
        simp only [List.mem_cons, List.not_mem_nil, or_false] at hb
        rcases hb with rfl | rfl
        · rw [hnewL] at e; cases e
        · rw [hnewC] at e; cases e
      · intro b hb
        have hb : b ∈ (s.heap.objs.size :: [s.heap.objs.size + 1]) ++ ex := hb
        rcases List.mem_append.mp hb with q | q
        · simp only [List.mem_cons, List.not_mem_nil, or_false] at q
          rcases q with rfl | rfl
          · obtain ⟨o, _, _, e, _⟩ := hns; exact ⟨o, e⟩
          · exact ⟨_, hoc⟩
        · obtain ⟨o, e⟩ := hex b q; exact ⟨o, hk₁ _ _ e⟩
    refine h s.heap s.heap.objs.size ex (A.deeper (callEnvC (fnOf name qual params body scope dV kV doc pm an cdv ct) s.heap.objs.size f)) _ _ _ ⟨⟨?_, ?_⟩, ?_, hroom.2.2⟩ h11 R fun fl o h' tk h1' p x => ?_
    · have := hroom.1.1
      show A.depth + 1 + d + 120 < recursionLimit
      (first | lia | omega)
    · obtain ⟨env, l, hf, _⟩ := hroom.1.2
      exact ⟨_, _, Around.frames_deeper hf, hgen, hco, rfl, rfl⟩
    · have := hroom.2.1
      show A.units + 3 + 10 * d + 100 < cLine
      (first | lia | omega)
    · cases o with
      | next ρ' μ' =>
        obtain ⟨rfl, R'⟩ := x
        have e : r = .none := p
        subst e
        exact hQ _ h' tk h1' R'.keep vr_none'
      | brk ρ' μ' => exact p.elim
      | cont ρ' μ' => exact p.elim
      | ret av ρ' μ' =>
        obtain ⟨v, rfl, R', k⟩ := x
        exact hQ _ h' tk h1' R'.keep (p h' v R' k)
end Mine
end

section
open PySem PySem.W PyProof.Rows Builtin Builtin.ObjectAttr
set_option Elab.async false
set_option maxRecDepth 100000
set_option linter.all false
namespace Mine
theorem ns1_look {h : Heap} {a : Addr} {m : Str → Option Value} (n : h.Ns1 a m) : ∃ o, h.get? a = some o ∧ ∀ x, lookIn x o = some (m x) := by
  obtain ⟨o, es, ep, e, d, k, u, f⟩ := n
  refine ⟨o, e, fun x => ?_⟩
  have := f x
  unfold nsFind findBy at this
  unfold lookIn
  rw [d]
  dsimp only
  rw [← Array.find?_toList] at this
  cases q : es.toList.find? (fun e => e.key.isStr x) with
  | some en => rw [q] at this; simp only [Option.map_some] at this; simp [this]
  | none =>
    rw [q] at this
    have z : es.toList.any (·.refKey) = false := by
      rw [List.any_eq_false]
      intro en hen
      obtain ⟨n, t, hk⟩ := k en (Array.mem_toList_iff.mp hen)
      simp [DictEntry.refKey, hk]
    simp only [Option.map_none] at this
    simp [z, ← this]

structure ClsOk (w : World) (K : Addr) : Prop where
  get : plainGet (KF w) K (Str.ofString "") = true
  dict : hasDictIn (KF w) K = true
  set : findIn (KF w) (.ref K) "__setattr__" = some (some (.builtin "object.__setattr__"))
  over : plainOver (KF w) K = true
theorem ClsOk.ga {w : World} {K : Addr} (c : ClsOk w K) : findIn (KF w) (.ref K) "__getattribute__" = some (some (.builtin "object.__getattribute__")) := (plainGet_of c.get).1
theorem ClsOk.gh {w : World} {K : Addr} (c : ClsOk w K) : findIn (KF w) (.ref K) "__getattr__" = some none := (plainGet_of c.get).2
noncomputable def handedAV : AV → Bool
  | .val v => handedIn v
  | _ => true
theorem handed_vr {F : Addr → Option Obj} {a : AV} {v : Value} (h : VR F a v) (k : handedAV a = true) : handedIn v = true := by
  cases a with
  | none => obtain rfl := vr_none h; rfl
  | bool b => obtain rfl := vr_bool h; rfl
  | int i => obtain ⟨t, rfl⟩ := vr_int h; rfl
  | str s => obtain ⟨⟨t, rfl⟩, _⟩ := vr_str h; rfl
  | val x => obtain rfl := vr_val h; exact k
  | list xs => obtain ⟨a, vs, n, rfl, _⟩ := vr_list h; rfl
  | tup xs => obtain ⟨a, vs, n, rfl, _⟩ := vr_tup h; rfl
theorem inst_at {h : Heap} {x K dx : Addr} {o : Obj} (hx : h.get? x = some (instObj K dx)) (ho : h.get? dx = some o) : InstAt h x (instObj K dx) K (some o) := ⟨hx, rfl, rfl, ho⟩
section
variable {w : World} {C : Fc} {ρ : Rho} {μ : Mu} {P : Out → Prop} {x K dx : Addr} {fs : Rho}
theorem EvTo.attr {o : PySem.Expr} {attr : Str} {pos : Pos} {av : AV} (hm : (dx, MO.dict fs) ∈ μ) (hl : fs.lookup attr = some av) (ho : EvTo w C ρ μ o (.val (.ref x))) (hI : C.h₀.get? x = some (instObj K dx)) (hc : ClsOk w K) (hn : findIn (KF w) (.ref K) attr = some none) (hh : handedAV av = true := by rfl)
    (he : eval (.Attribute o attr pos) C.env = (do
      let o ← eval o C.env
      standAt pos.atName
      let r ← holding [o] (getAttr o attr true)
      letTemporaryGo ‹PySem.Expr› o r
      pure r) := by with_unfolding_all rfl) : EvTo w C ρ μ (.Attribute o attr pos) av :=
  fun A s Q E hr h1 R hQ => Attribute_any_ (ho A s _ _ hr h1 R fun v h' tk h1' g k => by
    obtain rfl := vr_val k
    have R' := R.grow g
    obtain ⟨m, hns, hf, _⟩ := R'.mus _ hm
    obtain ⟨od, hod, hlk⟩ := ns1_look hns
    obtain ⟨u, hu, ku⟩ := hf attr av hl
    have I := inst_at (R'.keep _ _ hI) hod
    refine get_value (K := KF w) ((R'.ok.base.grow R'.keep).kin) I hc.ga (findObj_own hc.dict hn rfl (by rw [hlk, hu])) (handed_vr ku hh) ?_
    exact hQ _ h' _ (Nat.le_succ_of_le h1') g ku) he
theorem within_of {m : Str → Option Value} (h : ∀ x, fs.lookup x = Option.none → m x = Option.none) : Within m (fs.map (·.1)) := fun y hy => by
  cases q : fs.lookup y with
  | none => exact absurd (h y q) hy
  | some av => exact List.mem_map_of_mem (mem_of_lookup q)
theorem Rel.mupd {h h' : Heap} {a : Addr} {mo mo' : MO} {pre post : Mu} (R : Rel w C ρ (pre ++ (a, mo) :: post) h) (hs : Heap.SameBut a h h') (hm : MRel (fz (exs C (pre ++ (a, mo) :: post)) h') h' a mo') (hal : ∃ o, h'.get? a = some o) : Rel w C ρ (pre ++ (a, mo') :: post) h' := by
  have eo : own C (pre ++ (a, mo') :: post) = own C (pre ++ (a, mo) :: post) := by simp [own]
  have ee : exs C (pre ++ (a, mo') :: post) = exs C (pre ++ (a, mo) :: post) := by unfold exs; rw [eo]
  have ain : a ∈ own C (pre ++ (a, mo) :: post) := by simp [own]
  have hF := fz_same (ex := exs C (pre ++ (a, mo) :: post)) (by unfold exs; exact List.mem_append_left _ ain) hs
  have nd := R.nd
  have hal' : C.env.locals ≠ a := fun q => by
    unfold own at nd
    rw [List.nodup_cons] at nd
    exact nd.1 (by rw [q]; simp)
  refine ⟨R.ok, fun b o e => (hs.2 b (fun q => by have := R.new a ain; rw [q, this] at e; cases e)).trans (R.keep b o e), ?_, fun p hp => ?_, by rw [eo]; exact R.new, by rw [eo]; exact nd, by rw [eo]; exact R.dj, fun b hb => ?_⟩
  · obtain ⟨m, hm, r⟩ := R.ns
    rw [ee]
    exact ⟨m, hm.sameBut hs hal', fun x av hx => let ⟨v, hv, k⟩ := r x av hx; ⟨v, hv, VR.mono hF _ _ k⟩⟩
  · rw [ee]
    by_cases q : p.1 = a
    · have : p = (a, mo') := by
        rcases List.mem_append.mp hp with hp | hp
        · exfalso
          unfold own at nd
          rw [List.nodup_cons] at nd
          have nd2 := nd.2
          rw [List.map_append, List.map_cons, List.nodup_append] at nd2
          exact nd2.2.2 p.1 (List.mem_map_of_mem hp) a (by simp) q
        · rcases List.mem_cons.mp hp with hp | hp
          · exact hp
          · exfalso
            unfold own at nd
            rw [List.nodup_cons] at nd
            have nd2 := nd.2
            rw [List.map_append, List.map_cons, List.nodup_append] at nd2
            have := (List.nodup_cons.mp nd2.2.1).1
            apply this
            have z : p.1 ∈ post.map (·.1) := List.mem_map_of_mem hp
            rw [q] at z
            exact z
      subst this
      exact hm
    · have hp' : p ∈ pre ++ (a, mo) :: post := by
        rcases List.mem_append.mp hp with hp | hp
        · exact List.mem_append_left _ hp
        · rcases List.mem_cons.mp hp with hp | hp
          · subst hp; exact absurd rfl q
          · exact List.mem_append_right _ (List.mem_cons_of_mem _ hp)
      exact MRel.keep hF (fun o e => (hs.2 _ q).trans e) (R.mus p hp')
  · rw [ee] at hb
    by_cases q : b = a
    · exact q ▸ hal
    · obtain ⟨o, e⟩ := R.alive b hb; exact ⟨o, (hs.2 b q).trans e⟩
theorem set_ns {prog : Program} {A : Around} {s : Shared} {E : Value → Shared → Prop} {Q : Unit → Shared → Prop} {m : Str → Option Value} {attr : Str} {v : Value} {ns : List Str} (X : (KF w).In s.heap) (hI : s.heap.get? x = some (instObj K dx)) (hns : s.heap.Ns1 dx m) (hc : ClsOk w K) (ht : takerIn (KF w) K attr = some none)
    (hw : Within m ns) (hsz : ns.length ≤ 1000)
    (h : ∀ h' tk, h'.Ns1 dx (fun y => if y = attr then some v else m y) → Heap.SameBut dx s.heap h' → Q () { s with heap := h', toks := tk }) : wpAny (model prog w) A (setAttr (.ref x) attr v) Q E s := by
  obtain ⟨od, hod, hlk⟩ := ns1_look hns
  have I := inst_at hI hod
  refine set_plain (K := KF w) X I hc.set (osa_open (s := { s with toks := s.toks + 1 }) X I hc.over ht fun b => ?_)
  obtain ⟨cd, hcd, hd'⟩ := any_some (show (clsIn (KF w) K).any (·.hasDict) = true from hc.dict)
  refine wpAny_bind (wpAny_pure (wpAny_bind (wpAny_bind (wpAny_loadPart hI (wpAny_bind (Looks.here (s := { s with toks := s.toks + 1 }) (looks_clsIn (M := model prog w) X hcd) ?_))))))
  rw [hd']
  refine wpAny_pure (a := some dx) (wpAny_bind (wpAny_pure (wpAny_bind ?_)))
  refine wpAny_nsSet1 (s := { s with toks := s.toks + 1 }) hns fun h' hn' hs' => ?_
  obtain ⟨oD, esD, epD, hoD, hdD, hcD⟩ := hn'.count (Within.cons attr v hw)
  refine wpAny_bind (wpAny_lookBehind hoD (by rw [hdD]; exact pastItsLine_dict (Nat.le_trans hcD (by rw [List.length_cons, sizeLine_eq]; (first | lia | omega)))) ?_)
  exact wpAny_pure (h h' _ hn' hs')
end
end Mine
end

section
open PySem PySem.W PyProof.Rows Builtin Builtin.ObjectAttr
set_option Elab.async false
set_option maxRecDepth 100000
set_option linter.all false
namespace Mine
section
variable {w : World} {C : Fc} {ρ : Rho} {μ pre post : Mu} {P : Out → Prop} {x K dx : Addr} {fs fs' : Rho}
theorem dict_put {h h' : Heap} {attr : Str} {av : AV} {v : Value} {m : Str → Option Value} (R : Rel w C ρ (pre ++ (dx, MO.dict fs) :: post) h) (hs : Heap.SameBut dx h h') (hn : h'.Ns1 dx (fun y => if y = attr then some v else m y))
    (hf : ∀ x av, fs.lookup x = some av → ∃ v, m x = some v ∧ VR (fz (exs C (pre ++ (dx, MO.dict fs) :: post)) h) av v) (hq : ∀ x, fs.lookup x = Option.none → m x = Option.none) (kv : VR (fz (exs C (pre ++ (dx, MO.dict fs) :: post)) h) av v)
    (hfs : ∀ y, fs'.lookup y = if y = attr then some av else fs.lookup y) : Rel w C ρ (pre ++ (dx, MO.dict fs') :: post) h' := by
  have hF := fz_same (ex := exs C (pre ++ (dx, MO.dict fs) :: post)) (L := dx) (by unfold exs own; simp) hs
  refine R.mupd hs ⟨_, hn, fun y av' hy => ?_, fun y hy => ?_⟩ (by obtain ⟨o, _, _, e, _⟩ := hn; exact ⟨o, e⟩)
  · rw [hfs] at hy
    by_cases q : y = attr
    · rw [if_pos q] at hy; cases hy; exact ⟨v, by simp [q], VR.mono hF _ _ kv⟩
    · rw [if_neg q] at hy
      obtain ⟨u, hu, ku⟩ := hf y av' hy
      exact ⟨u, by simp [q, hu], VR.mono hF _ _ ku⟩
  · rw [hfs] at hy
    by_cases q : y = attr
    · rw [if_pos q] at hy; cases hy
    · rw [if_neg q] at hy
      simp [q, hq y hy]
theorem X1To.setattr {o value : PySem.Expr} {attr : Str} {p' pos : Pos} {av : AV} (hfs : ∀ y, fs'.lookup y = if y = attr then some av else fs.lookup y) (hv : EvTo w C ρ (pre ++ (dx, MO.dict fs) :: post) value av) (ho : EvTo w C ρ (pre ++ (dx, MO.dict fs) :: post) o (.val (.ref x))) (hI : C.h₀.get? x = some (instObj K dx)) (hc : ClsOk w K) (ht : takerIn (KF w) K attr = some none)
    (hlen : fs.length ≤ 1000) (hs : swapsWith value (some (.Attribute o attr p')) pos.line C.env = pure false := by rfl) :
    X1To w C ρ (pre ++ (dx, MO.dict fs) :: post) (.Assign [.Attribute o attr p'] value pos) (· = .next ρ (pre ++ (dx, MO.dict fs') :: post)) :=
  fun A s Q E hr h1 R hQ => plainObj_wpAny_Assign_Attribute (hv A s _ _ hr h1 R fun v h' tk h1' g kv => ho A _ _ _ hr h1' (R.grow g) fun ov h2 tk2 h12 g2 ko => by
    obtain rfl := vr_val ko
    have R2 := (R.grow g).grow g2
    obtain ⟨m, hns, hf, hq⟩ := R2.mus (dx, MO.dict fs) (by simp)
    refine tok1 h12 (set_ns ((R2.ok.base.grow R2.keep).kin) (R2.keep _ _ hI) hns hc ht (within_of hq) (by simpa using hlen) fun h3 tk3 hn3 hs3 => fun h13 => ?_)
    exact hQ _ _ h3 tk3 h13 rfl ⟨rfl, dict_put R2 hs3 hn3 hf hq (kv.grow g2) hfs⟩) hs
theorem X1To.augattr {o value : PySem.Expr} {attr : Str} {p' pos : Pos} {op : Operator} {a b c : AV} (hfs : ∀ y, fs'.lookup y = if y = attr then some c else fs.lookup y) (hl : fs.lookup attr = some a) (hv : EvTo w C ρ (pre ++ (dx, MO.dict fs) :: post) value b) (hop : Op2 w C ρ (pre ++ (dx, MO.dict fs) :: post) (inplaceOp op) a b c)
    (ho : EvTo w C ρ (pre ++ (dx, MO.dict fs) :: post) o (.val (.ref x))) (hI : C.h₀.get? x = some (instObj K dx)) (hc : ClsOk w K) (ht : takerIn (KF w) K attr = some none) (hn : findIn (KF w) (.ref K) attr = some none) (hlen : fs.length ≤ 1000) (hh : handedAV a = true := by rfl) :
    X1To w C ρ (pre ++ (dx, MO.dict fs) :: post) (.AugAssign (.Attribute o attr p') op value pos) (· = .next ρ (pre ++ (dx, MO.dict fs') :: post)) :=
  fun A s Q E hr h1 R hQ => wpAny_AugAssign_AttributeAny (ho A s _ _ hr h1 R fun ov h' tk h1' g ko => by
    obtain rfl := vr_val ko
    have R' := R.grow g
    obtain ⟨m, hns, hf, hq⟩ := R'.mus (dx, MO.dict fs) (by simp)
    obtain ⟨od, hod, hlk⟩ := ns1_look hns
    obtain ⟨u, hu, ku⟩ := hf attr a hl
    refine get_value (K := KF w) ((R'.ok.base.grow R'.keep).kin) (inst_at (R'.keep _ _ hI) hod) hc.ga (findObj_own hc.dict hn rfl (by rw [hlk, hu])) (handed_vr ku hh) ?_
    refine hv A _ _ _ hr (Nat.le_succ_of_le h1') R' fun v h2 tk2 h12 g2 kv => ?_
    have R2 := R'.grow g2
    refine tok1 h12 (hop A _ _ _ u v hr h12 R2 (ku.grow g2) kv fun v3 h3 tk3 g3 k3 => fun h13 => ?_)
    have R3 := R2.grow g3
    obtain ⟨m, hns, hf, hq⟩ := R3.mus (dx, MO.dict fs) (by simp)
    refine tok1 h13 (set_ns ((R3.ok.base.grow R3.keep).kin) (R3.keep _ _ hI) hns hc ht (within_of hq) (by simpa using hlen) fun h4 tk4 hn4 hs4 => fun h14 => ?_)
    exact hQ _ _ h4 tk4 h14 rfl ⟨rfl, dict_put R3 hs4 hn4 hf hq k3 hfs⟩)
theorem X1To.whileT {t : PySem.Expr} {body : List Stmt} {p : Pos} (I : Nat → Rho → Mu → Prop) (n : Nat) (h0 : I n ρ μ) (ht : ∀ ρ' μ', TrTo w C ρ' μ' t true)
    (hb : ∀ n ρ' μ', I n ρ' μ' → ExTo w C ρ' μ' body (fun o => match o with | .next ρ2 μ2 => ∃ k, k < n ∧ I k ρ2 μ2 | .cont ρ2 μ2 => ∃ k, k < n ∧ I k ρ2 μ2 | .brk ρ2 μ2 => P (.next ρ2 μ2) | .ret av ρ2 μ2 => P (.ret av ρ2 μ2))) :
    X1To w C ρ μ (.While t body [] p) P :=
  fun A s Q E hr h1 R hQ => wpAny_While (codeAny_whileLoop (fun n s' => ∃ ρ' μ' h' tk, s' = { s with heap := h', toks := tk } ∧ 1 ≤ tk ∧ I n ρ' μ' ∧ Rel w C ρ' μ' h') (by
    rintro n s' ⟨ρ', μ', h', tk, rfl, h1', hI, R'⟩
    refine ht ρ' μ' A _ _ _ hr h1' R' fun h2 tk2 h12 g2 => ?_
    simp only [if_true]
    refine hb n ρ' μ' hI A _ _ _ hr h12 (R'.grow g2) fun fl o h3 tk3 h13 p x => ?_
    cases o with
    | next ρ4 μ4 => obtain ⟨rfl, R4⟩ := x; obtain ⟨k, hk, hI'⟩ := p; exact ⟨k, hk, ρ4, μ4, h3, tk3, rfl, h13, hI', R4⟩
    | cont ρ4 μ4 => obtain ⟨rfl, R4⟩ := x; obtain ⟨k, hk, hI'⟩ := p; exact ⟨k, hk, ρ4, μ4, h3, tk3, rfl, h13, hI', R4⟩
    | brk ρ4 μ4 => obtain ⟨rfl, R4⟩ := x; exact hQ _ _ h3 tk3 h13 p ⟨rfl, R4⟩
    | ret av ρ4 μ4 => obtain ⟨v', rfl, R4, k4⟩ := x; exact hQ _ _ h3 tk3 h13 p ⟨v', rfl, R4, k4⟩) n ⟨ρ, μ, s.heap, s.toks, rfl, h1, h0, R⟩)
end

noncomputable def ads (μ : Mu) : List Addr := μ.map (·.1)
structure Pre (w : World) (PP : Heap → Prop) (ex : List Addr) (args : List AV) (vs : List Value) (μ₀ : Mu) (h : Heap) : Prop where
  base : Base w (hideAll h (ads μ₀))
  pp : PP (hideAll h (ads μ₀))
  alive : ∀ a ∈ ex, ∃ o, h.get? a = some o
  inn : ∀ p ∈ μ₀, p.1 ∈ ex
  nd : (ads μ₀).Nodup
  mus : ∀ p ∈ μ₀, MRel (fz ex h) h p.1 p.2
  args : VRs (fz ex h) args vs
structure Post (ex : List Addr) (r : AV) (μ₁ : Mu) (h h' : Heap) (v : Value) : Prop where
  keep : Grow (hideAll h (ads μ₁)) h'
  mus : ∀ p ∈ μ₁, MRel (fz ex h') h' p.1 p.2
  res : VR (fz ex h') r v
noncomputable def CallsM (w : World) (d : Nat) (PP : Heap → Prop) (f : Value) (args : List AV) (kw : List (Str × Value)) (μ₀ : Mu) (r : AV) (μ₁ : Mu) : Prop :=
  ∀ (A : Around) (s : Shared) (ex : List Addr) (vs : List Value) (R : Result → Shared → Prop), Room d A → 1 ≤ s.toks → Pre w PP ex args vs μ₀ s.heap →
    (∀ v h' tk, 1 ≤ tk → Post ex r μ₁ s.heap h' v → R (.ok (.ret v)) { s with heap := h', toks := tk }) → codeAny (model PR w) A (.call f ⟨vs, kw⟩) R s
noncomputable def BackM (w : World) (C : Fc) (r : AV) (μ₁ : Mu) (o : Out) : Prop := match o with
  | .ret av ρ' μ' => μ' = μ₁ ∧ ∀ h v, Rel w C ρ' μ' h → VR (fz (exs C μ') h) av v → VR (fz (exs C μ') h) r v
  | .next _ μ' => r = .none ∧ μ' = μ₁
  | _ => False
theorem BackM.same {w : World} {C : Fc} {r : AV} {ρ : Rho} {μ₁ : Mu} : BackM w C r μ₁ (.ret r ρ μ₁) := ⟨rfl, fun _ _ _ x => x⟩
theorem BindTo.peek {w : World} {fd : FuncData} {args : List AV} {kw : List (Str × Value)} {ρ : Rho} (h : ∀ vs : List Value, vs.length = args.length → ∃ binds, (∀ S, peek (KF w) S (bindArgs fd ⟨vs, kw⟩) = some binds) ∧
    (∀ F, VRs F args vs → ∀ x av, ρ.lookup x = some av → ∃ v, binds.reverse.lookup x = some v ∧ VR F av v) ∧ ∀ y ∈ binds, fd.scope.names.lookup y.1 = some .local) : BindTo w fd args kw ρ := by
  intro A s ex vs Q E B hex hvs hQ
  obtain ⟨binds, e, h1, h2⟩ := h vs hvs.length
  exact kp_binds B.kin e _ _ _ _ (hQ binds s.heap s.toks (Grow.refl _) (h1 _ hvs) h2)
theorem enterM {PP : Heap → Prop} {w : World} {d : Nat} {f : Addr} {name qual : Str} {params : Arguments} {body : List Stmt} {scope : Scope} {dV kV doc pm cdv ct oc : Value} {an od : Option Addr} {osl : Array (Option Value)} {args : List AV} {kw : List (Str × Value)} {μ₀ μ₁ : Mu} {r : AV} {ρ : Rho}
    (ho : (KF w).lookup f = some ⟨oc, od, .func (fnOf name qual params body scope dV kV doc pm an cdv ct), osl⟩) (hcd : codeIn (KF w) cdv qual = true)
    (hb : BindTo w (fnOf name qual params body scope dV kV doc pm an cdv ct) args kw ρ) (hμ : ads μ₁ = ads μ₀)
    (h : ∀ (h₀ : Heap) (L : Addr) (ex : List Addr), PP h₀ → ExTo w ⟨h₀, envOf qual scope L f cdv, ex, d⟩ ρ μ₀ body (BackM w ⟨h₀, envOf qual scope L f cdv, ex, d⟩ r μ₁))
    (hco : scope.isCoroutine = false) (hgen : scope.isGenerator = false) (hk : scope.kind = .function) (hcell : ∀ x ∈ scope.names, x.2 ≠ .cell) (hg : ∀ h h', PP h → Grow h h' → PP h') : CallsM w (d + 1) PP (.ref f) args kw μ₀ r μ₁ := by
  intro A s ex vs R hroom h1 P hQ
  have B : Base w s.heap := P.base.grow fun b o e => of_hideAll _ e
  obtain ⟨_, _, _, mg, mb, T⟩ := B.top
  refine codeAny_call_function (fd := fnOf name qual params body scope dV kV doc pm an cdv ct) (by have := hroom.1.1; (first | lia | omega)) (B.kin _ _ ho) rfl hco hgen rfl (codeRec_of B.kin hcd) ?_
  refine tok1 h1 (hb _ _ ex vs _ _ B P.alive P.args fun binds h₁ tk₁ g₁ hbr hbl => ?_)
  intro h11
  refine wpAny_newFunctionEnv hcell hbl (fun h₂ hns hsb => ?_) hk
  have g2 : Grow h₁ h₂ := fun b o e => hsb.extBut b o (Nat.ne_of_lt (Heap.lt_size e)) (Heap.get?_push_of_some _ e)
  refine ⟨T.nolimit.keeps (g₁.trans g2), codeAny_func ?_⟩
  have hnew : h₁.get? h₁.objs.size = none := get?_size_none _
  have hal : ∀ a, a ∈ ex → a ≠ h₁.objs.size := fun a ha q => by
    obtain ⟨o, e⟩ := P.alive a ha
    have := g₁ _ _ e
    rw [q, hnew] at this; cases this
  have hadx : ∀ a ∈ ads μ₀, a ∈ ex := fun a ha => by obtain ⟨p, hp, rfl⟩ := List.mem_map.mp ha; exact P.inn p hp
  have gh : Grow (hideAll s.heap (ads μ₀)) (hideAll h₁ (ads μ₀)) := fun b o e => hideAll_get _ (g₁ _ _ (of_hideAll _ e)) fun q => by rw [hideAll_none _ q] at e; cases e
  let ex' := ex.filter fun a => decide (a ∉ ads μ₀)
  let C : Fc := ⟨hideAll h₁ (ads μ₀), envOf qual scope h₁.objs.size f cdv, ex', d⟩
  have hexs : ∀ a, a ∈ exs C μ₀ ↔ a = h₁.objs.size ∨ a ∈ ex := fun a => by
    show a ∈ (h₁.objs.size :: ads μ₀) ++ ex' ↔ _
    simp only [ex', List.cons_append, List.mem_cons, List.mem_append, List.mem_filter, decide_eq_true_eq]
    constructor
    · rintro (q | q | q)
      · exact .inl q
      · exact .inr (hadx a q)
      · exact .inr q.1
    · rintro (q | q)
      · exact .inl q
      · by_cases z : a ∈ ads μ₀
        · exact .inr (.inl z)
        · exact .inr (.inr ⟨q, z⟩)
  have hF : ∀ a o, fz ex h₁ a = some o → fz (exs C μ₀) h₂ a = some o := fun a o e => fz_of (fun q => by
    rcases (hexs a).mp q with rfl | q
    · rw [fz_get e] at hnew; cases hnew
    · exact fz_not e q) (g2 _ _ (fz_get e))
  have RR : Rel w C ρ μ₀ h₂ := by
    refine ⟨⟨P.base.grow gh, hk, rfl, rfl⟩, fun b o e => g2 _ _ (of_hideAll _ e), ⟨_, hns, ?_⟩, fun p hp => ?_, ?_, ?_, ?_, ?_⟩
    · intro x av e
      obtain ⟨v, hv, k⟩ := hbr x av e
      exact ⟨v, hv, VR.mono hF _ _ k⟩
    · exact MRel.keep (fun a o e => hF a o (fz_of (fz_not e) (g₁ _ _ (fz_get e)))) (fun o e => g2 _ _ (g₁ _ _ e)) (P.mus p hp)
    · intro a ha
      show (hideAll h₁ (ads μ₀)).get? a = none
      rcases List.mem_cons.mp (show a ∈ h₁.objs.size :: ads μ₀ from ha) with rfl | ha
      · cases q : (hideAll h₁ (ads μ₀)).get? h₁.objs.size with
        | none => rfl
        | some o => have := of_hideAll _ q; rw [hnew] at this; cases this
      · exact hideAll_none _ ha
    · exact List.nodup_cons.mpr ⟨fun q => hal _ (hadx _ q) rfl, P.nd⟩
    · intro a ha q
      have q := List.mem_filter.mp q
      rcases List.mem_cons.mp (show a ∈ h₁.objs.size :: ads μ₀ from ha) with rfl | ha
      · exact hal _ q.1 rfl
      · exact of_decide_eq_true q.2 ha
    · intro a ha
      rcases (hexs a).mp ha with rfl | ha
      · obtain ⟨o, _, _, e, _⟩ := hns; exact ⟨o, e⟩
      · obtain ⟨o, e⟩ := P.alive a ha; exact ⟨o, g2 _ _ (g₁ _ _ e)⟩
  have fin : ∀ ρ' h' tk v, 1 ≤ tk → Rel w C ρ' μ₁ h' → VR (fz (exs C μ₁) h') r v → R (.ok (.ret v)) { s with heap := h', toks := tk } := by
    intro ρ' h' tk v h1' R' kv
    have ee : exs C μ₁ = exs C μ₀ := by
      show (h₁.objs.size :: ads μ₁) ++ ex' = (h₁.objs.size :: ads μ₀) ++ ex'
      rw [hμ]
    have hF' : ∀ a o, fz (exs C μ₁) h' a = some o → fz ex h' a = some o := fun a o e => fz_of (fun q => fz_not e (by rw [ee]; exact (hexs a).mpr (.inr q))) (fz_get e)
    refine hQ v h' tk h1' ⟨?_, fun p hp => MRel.keep hF' (fun _ e => e) (R'.mus p hp), VR.mono hF' _ _ kv⟩
    rw [hμ]
    exact gh.trans R'.keep
  refine h (hideAll h₁ (ads μ₀)) h₁.objs.size ex' (hg _ _ P.pp gh) (A.deeper (callEnv (fnOf name qual params body scope dV kV doc pm an cdv ct) h₁.objs.size f)) _ _ _ ⟨⟨?_, ?_⟩, ?_, hroom.2.2⟩ ?_ RR fun fl o h' tk h1' p x => ?_
  · have := hroom.1.1
    show A.depth + 1 + d + 120 < recursionLimit
    (first | lia | omega)
  · obtain ⟨env, l, hf, _⟩ := hroom.1.2
    exact ⟨_, _, Around.frames_deeper hf, hgen, hco, rfl, rfl⟩
  · have := hroom.2.1
    show A.units + 3 + 10 * d + 100 < cLine
    (first | lia | omega)
  · show 1 ≤ tk₁ + _
    have : 1 ≤ tk₁ := h11
    (first | lia | omega)
  · cases o with
    | next ρ' μ' =>
      obtain ⟨rfl, R'⟩ := x
      obtain ⟨rfl, rfl⟩ := p
      exact fin _ h' tk _ h1' R' vr_none'
    | brk ρ' μ' => exact p.elim
    | cont ρ' μ' => exact p.elim
    | ret av ρ' μ' =>
      obtain ⟨v, rfl, R', k⟩ := x
      obtain ⟨rfl, p⟩ := p
      exact fin _ h' tk _ h1' R' (p h' v R' k)
end Mine
end

section
open PySem PySem.W PyProof.Rows Builtin Builtin.ObjectAttr
set_option Elab.async false
set_option maxRecDepth 100000
set_option linter.all false
namespace Mine
section
variable {w : World} {C : Fc} {ρ : Rho} {μ pre μ₀ μ₁ : Mu} {P : Out → Prop} {x K dx f : Addr} {fs fs' : Rho} {PP : Heap → Prop} {args avs : List AV} {r : AV}
theorem own_app : own C (pre ++ μ₀) = C.env.locals :: (ads pre ++ ads μ₀) := by simp [own, ads]
theorem ads_app : (pre ++ μ₀).map (·.1) = ads pre ++ ads μ₀ := by simp [ads]
theorem Rel.toPre {h : Heap} {vs : List Value} (R : Rel w C ρ (pre ++ μ₀) h) (hp : PP C.h₀) (hg : ∀ h h', PP h → Grow h h' → PP h') (hv : VRs (fz (exs C (pre ++ μ₀)) h) args vs) : Pre w PP (exs C (pre ++ μ₀)) args vs μ₀ h := by
  have sub : ∀ a ∈ ads μ₀, a ∈ own C (pre ++ μ₀) := fun a ha => by rw [own_app]; exact List.mem_cons_of_mem _ (List.mem_append_right _ ha)
  have gh : Grow C.h₀ (hideAll h (ads μ₀)) := fun b o e => hideAll_get _ (R.keep b o e) fun q => by rw [R.new b (sub b q)] at e; cases e
  refine ⟨R.ok.base.grow gh, hg _ _ hp gh, R.alive, fun p hp => ?_, ?_, fun p hp => R.mus p (List.mem_append_right _ hp), hv⟩
  · unfold exs; exact List.mem_append_left _ (sub _ (List.mem_map_of_mem hp))
  · have := R.nd
    rw [own_app, List.nodup_cons, List.nodup_append] at this
    exact this.2.2.1
theorem Rel.ofPost {h h' : Heap} {v : Value} (R : Rel w C ρ (pre ++ μ₀) h) (hμ : ads μ₁ = ads μ₀) (S : Post (exs C (pre ++ μ₀)) r μ₁ h h' v) : Rel w C ρ (pre ++ μ₁) h' ∧ VR (fz (exs C (pre ++ μ₁)) h') r v := by
  have eo : own C (pre ++ μ₁) = own C (pre ++ μ₀) := by rw [own_app, own_app, hμ]
  have ee : exs C (pre ++ μ₁) = exs C (pre ++ μ₀) := by unfold exs; rw [eo]
  have sub : ∀ a ∈ ads μ₀, a ∈ own C (pre ++ μ₀) := fun a ha => by rw [own_app]; exact List.mem_cons_of_mem _ (List.mem_append_right _ ha)
  have gk : ∀ b o, b ∉ ads μ₀ → h.get? b = some o → h'.get? b = some o := fun b o hb e => S.keep b o (hideAll_get _ e (by rw [hμ]; exact hb))
  have hF : ∀ a o, fz (exs C (pre ++ μ₀)) h a = some o → fz (exs C (pre ++ μ₀)) h' a = some o := fun a o e =>
    fz_of (fz_not e) (gk a o (fun q => fz_not e (by unfold exs; exact List.mem_append_left _ (sub a q))) (fz_get e))
  have nd := R.nd
  rw [own_app, List.nodup_cons, List.nodup_append] at nd
  refine ⟨⟨R.ok, fun b o e => gk b o (fun q => by rw [R.new b (sub b q)] at e; cases e) (R.keep b o e), ?_, fun p hp => ?_, by rw [eo]; exact R.new, by rw [eo]; exact R.nd, by rw [eo]; exact R.dj, fun b hb => ?_⟩, by rw [ee]; exact S.res⟩
  · obtain ⟨m, ⟨o, es, ep, e, z⟩, k⟩ := R.ns
    rw [ee]
    exact ⟨m, ⟨o, es, ep, gk _ _ (fun q => nd.1 (List.mem_append_right _ q)) e, z⟩, fun y av hy => let ⟨v, hv, kv⟩ := k y av hy; ⟨v, hv, VR.mono hF _ _ kv⟩⟩
  · rw [ee]
    rcases List.mem_append.mp hp with hp | hp
    · exact MRel.keep hF (fun o e => gk _ _ (fun q => nd.2.2.2 p.1 (List.mem_map_of_mem hp) p.1 q rfl) e) (R.mus p (List.mem_append_left _ hp))
    · exact S.mus p hp
  · rw [ee] at hb
    by_cases q : b ∈ ads μ₀
    · rw [← hμ] at q
      obtain ⟨p, hp, rfl⟩ := List.mem_map.mp q
      have M := S.mus p hp
      cases hmo : p.2 with
      | list xs => rw [hmo] at M; obtain ⟨vs, n, e, _⟩ := M; exact ⟨_, e⟩
      | dict fs => rw [hmo] at M; obtain ⟨m, ⟨o, _, _, e, _⟩, _⟩ := M; exact ⟨_, e⟩
      | cell cv => rw [hmo] at M; cases cv with
        | none => obtain ⟨o, e, _⟩ := M; exact ⟨_, e⟩
        | some av => obtain ⟨o, e, _⟩ := M; exact ⟨_, e⟩
    · obtain ⟨o, e⟩ := R.alive b hb; exact ⟨o, gk b o q e⟩
noncomputable def MvTo (w : World) (C : Fc) (ρ : Rho) (μ : Mu) (t : Sem Value) (av : AV) (μ' : Mu) : Prop :=
  ∀ (A : Around) (s : Shared) (Q E : Value → Shared → Prop), Room C.d A → 1 ≤ s.toks → Rel w C ρ μ s.heap →
    (∀ v h' tk, 1 ≤ tk → Rel w C ρ μ' h' → VR (fz (exs C μ') h') av v → Q v { s with heap := h', toks := tk }) → wpAny (model PR w) A t Q E s
theorem X1To.assignM {y : Str} {p' p : Pos} {e : PySem.Expr} {av : AV} {μ' : Mu} (h : MvTo w C ρ μ (eval e C.env) av μ') (hk : C.env.kindOf y = some .local := by rfl)
    (hs : swapsWith e (some (.Name y p')) p.line C.env = pure false := by rfl) : X1To w C ρ μ (.Assign [.Name y p'] e p) (· = .next (put ρ y av) μ') :=
  fun A s Q E hr h1 R hQ => wpAny_Assign_Name (h A s _ _ hr h1 R fun v h' tk h1' R' k => tok1 h1' (store_local R' k hk fun h'' tk' R2 => fun h1'' => hQ _ _ h'' tk' h1'' rfl ⟨rfl, R2⟩)) hs
theorem meth_get {A : Around} {s : Shared} {Q : Value × List Value → Shared → Prop} {E : Value → Shared → Prop} {name : Str} {pl : Sem Bool} (R : Rel w C ρ μ s.heap) (hI : C.h₀.get? x = some (instObj K dx)) (hm : (dx, MO.dict fs) ∈ μ) (hl : fs.lookup name = Option.none) (hc : ClsOk w K)
    (hf : findIn (KF w) (.ref K) name = some (some (.ref f))) (ht : typeIn (KF w) (.ref f) = some (.type "function")) (hq : Q (.ref f, [.ref x]) s) : wpAny (model PR w) A (getMethod (.ref x) name pl) Q E s := by
  obtain ⟨m, hns, _, hq0⟩ := R.mus _ hm
  obtain ⟨od, hod, hlk⟩ := ns1_look hns
  refine method_fn (K := KF w) ((R.ok.base.grow R.keep).kin) (inst_at (R.keep _ _ hI) hod) hc.ga hc.gh hf ht ?_ hq
  show (lookIn name od).map (·.isSome) = some false
  rw [hlk, hq0 _ hl]; rfl
structure MFn (w : World) (K f : Addr) (name : Str) : Prop where
  find : findIn (KF w) (.ref K) name = some (some (.ref f))
  type : typeIn (KF w) (.ref f) = some (.type "function")
  keep : keepIn (KF w) (.ref f) = true
theorem MvTo.meth0 {o : PySem.Expr} {name : Str} {ap p : Pos} {pl : Sem Bool} (hm : (dx, MO.dict fs) ∈ pre ++ μ₀) (hl : fs.lookup name = Option.none) (ho : EvTo w C ρ (pre ++ μ₀) o (.val (.ref x))) (hI : C.h₀.get? x = some (instObj K dx)) (hc : ClsOk w K) (F : MFn w K f name)
    (hcall : CallsM w C.d PP (.ref f) [.val (.ref x)] [] μ₀ r μ₁) (hp : PP C.h₀) (hg : ∀ h h', PP h → Grow h h' → PP h') (hμ : ads μ₁ = ads μ₀)
    (hE : eval (.Call (.Attribute o name ap) [] [] p) C.env = (do
      let ov ← eval o C.env
      standAt ap.atName
      let (f, first) ← holding [ov] (getMethod ov name pl)
      callWith p f first (backTo p (starEach [] C.env)) []) := by rfl) : MvTo w C ρ (pre ++ μ₀) (eval (.Call (.Attribute o name ap) [] [] p) C.env) r (pre ++ μ₁) :=
  fun A s Q E hr h1 R hQ => MethodCall_ (ho A s _ _ hr h1 R fun v h' tk h1' g k => by
    obtain rfl := vr_val k
    have R' := R.grow g
    refine meth_get R' hI hm hl hc F.find F.type ?_
    refine callWith_K0 (K := KF w) ((R'.ok.base.grow R'.keep).kin) F.keep (wpAny_call (hcall A _ _ _ _ hr h1' (R'.toPre hp hg (VRs.cons vr_val' VRs.nil)) fun v2 h2 tk2 h12 S => ?_))
    obtain ⟨R2, k2⟩ := R'.ofPost hμ S
    exact hQ v2 h2 tk2 h12 R2 k2) hE
theorem MvTo.meth1 {o : PySem.Expr} {name : Str} {ap p : Pos} {e : PySem.Expr} {es : List PySem.Expr} {pl : Sem Bool} (hm : (dx, MO.dict fs) ∈ pre ++ μ₀) (hl : fs.lookup name = Option.none) (ho : EvTo w C ρ (pre ++ μ₀) o (.val (.ref x))) (ha : ArgsTo w C ρ (pre ++ μ₀) p (e :: es) avs) (hI : C.h₀.get? x = some (instObj K dx)) (hc : ClsOk w K) (F : MFn w K f name)
    (hcall : CallsM w C.d PP (.ref f) (.val (.ref x) :: avs) [] μ₀ r μ₁) (hp : PP C.h₀) (hg : ∀ h h', PP h → Grow h h' → PP h') (hμ : ads μ₁ = ads μ₀)
    (hE : eval (.Call (.Attribute o name ap) (e :: es) [] p) C.env = (do
      let ov ← eval o C.env
      standAt ap.atName
      let (f, first) ← holding [ov] (getMethod ov name pl)
      callWith p f first (backTo p (starEach (e :: es) C.env)) []) := by rfl)
    (he : starEach (e :: es) C.env = (false, eval e C.env) :: starEach es C.env := by rfl) (hplain : (backTo p (starEach es C.env)).any (·.1) = false := by rfl) : MvTo w C ρ (pre ++ μ₀) (eval (.Call (.Attribute o name ap) (e :: es) [] p) C.env) r (pre ++ μ₁) :=
  fun A s Q E hr h1 R hQ => MethodCall_ (ho A s _ _ hr h1 R fun v h' tk h1' g k => by
    obtain rfl := vr_val k
    have R' := R.grow g
    refine meth_get R' hI hm hl hc F.find F.type ?_
    refine callWith_K (K := KF w) (h₀ := C.h₀) R.ok.base.kin F.keep (ha A _ _ _ hr h1' R' fun vs h2 tk2 h12 g2 kv => ?_) he hplain
    have R2 := R'.grow g2
    refine ⟨(R2.ok.base.grow R2.keep).kin, wpAny_call (hcall A _ _ _ _ hr h12 (R2.toPre hp hg (VRs.cons vr_val' kv)) fun v3 h3 tk3 h13 S => ?_)⟩
    obtain ⟨R3, k3⟩ := R2.ofPost hμ S
    exact hQ v3 h3 tk3 h13 R3 k3) hE
theorem X1To.exprM {e : PySem.Expr} {q : Pos} {av : AV} {μ' : Mu} (h : MvTo w C ρ μ (eval e C.env) av μ') (hi : interactive C.env = false := by rfl) (hs : swapsWith e Option.none q.line C.env = pure false := by rfl) :
    X1To w C ρ μ (.Expr e q) (· = .next ρ μ') :=
  fun A s Q E hr h1 R hQ => wpAny_Expr_any (h A s _ _ hr h1 R fun v h' tk h1' R' k => hQ _ _ h' tk h1' rfl ⟨rfl, R'⟩) hi hs
end
end Mine
end

section
open PySem PySem.W PyProof.Rows Builtin Builtin.ObjectAttr
set_option Elab.async false
set_option maxRecDepth 100000
set_option linter.all false
namespace Mine
noncomputable abbrev dqObj : Obj := { cls := .type "collections.deque", data := .fields #[.none, rawInt 0] }
theorem dq_nobool : typeLookup (.type "collections.deque") "__bool__" = pure none := by rw [typeLookup_type, builtinLookup_eq_fast]; kernel_rfl
theorem slot_dq_len : Slot "collections.deque" "__len__" "collections.deque.__len__" :=
  .of (owner := "collections.deque") (n := "__len__") (by rw [typeLookup_type, builtinLookup_eq_fast]; kernel_rfl) (by decide +kernel) (by decide +kernel) (by decide +kernel)
    (by first | exact .inl (by decide +kernel) | exact .inr (by decide +kernel)) (by rw [isSubtype_type]; kernel_rfl)
theorem slot_dq_init : Slot "collections.deque" "__init__" "collections.deque.__init__" :=
  .of (owner := "collections.deque") (n := "__init__") (by rw [typeLookup_type, builtinLookup_eq_fast]; kernel_rfl) (by decide +kernel) (by decide +kernel) (by decide +kernel)
    (by first | exact .inl (by decide +kernel) | exact .inr (by decide +kernel)) (by rw [isSubtype_type]; kernel_rfl)
theorem entry_dq_len : entryFor table "collections.deque.__len__" = some Builtin.«collections.deque.__len__» := entryFor_of_tree (by kernel_rfl)
theorem entry_dq_init : entryFor table "collections.deque.__init__" = some Builtin.«collections.deque.__init__» := entryFor_of_tree (by kernel_rfl)
theorem entry_dq_new : entryFor table "collections.deque.__new__" = some Builtin.«collections.deque.__new__» := entryFor_of_tree (by kernel_rfl)
theorem args_dq_len (a : Value) : argsOk "collections.deque.__len__" ⟨[a], []⟩ := by unfold argsOk; kernel_rfl
theorem args_dq_init (a : Value) : argsOk "collections.deque.__init__" ⟨[a], []⟩ := by unfold argsOk; kernel_rfl
theorem mro_dq : mroOf (.type "collections.deque") = pure [.type "collections.deque", .type "object"] := by rw [mroOf_type]; kernel_rfl
theorem lookup_dq_new : typeLookup (.type "collections.deque") "__new__" = pure (some (.builtin "collections.deque.__new__")) := by rw [typeLookup_type, builtinLookup_eq_fast]; kernel_rfl
theorem sub_dq : isSubtype (.type "collections.deque") (.type "collections.deque") = pure true := by rw [isSubtype_type]; kernel_rfl
theorem called_dq : TypeCalled "collections.deque" "collections.deque.__new__" "collections.deque.__init__" :=
  ⟨by decide +kernel, by decide +kernel, ⟨_, _, mro_dq⟩, madeBy_type mro_dq lookup_dq_new (by decide +kernel), by decide +kernel, sub_dq, slot_dq_init⟩
theorem typeCall_dq : checkTypeCall "collections.deque" ⟨[], []⟩ = pure () := by kernel_rfl
theorem newCall_dq : checkBuiltinCall "collections.deque.__new__" ⟨[.type "collections.deque"], []⟩ = pure () := by kernel_rfl
theorem plain_dq_new : plainId "collections.deque.__new__" = true := by decide +kernel
section
variable {prog : Program} {w : World} {A : Around} {E : Value → Shared → Prop} {s : Shared}
theorem looks_fields {M : Model} {h : Heap} {p : Addr} {c : Value} {d sl} {vs : Array Value} (ho : h.get? p = some ⟨c, d, .fields vs, sl⟩) : Looks M h (fieldsOf (.ref p)) vs := by
  intro A Q E s k q
  exact wpAny_bind (wpAny_load (k _ _ ho) (wpAny_pure q))
theorem len_dq {l : Addr} {Q : Value → Shared → Prop} (hl : s.heap.get? l = some dqObj)
    (h : Q (.int 0 (s.toks + 1)) { s with toks := s.toks + 1 + 1 }) : wpAny (model prog w) A (Builtin.«len» ⟨[.ref l], []⟩) (fun fin s' => ∃ r, fin = .done (.ret r) ∧ Q r s') E s := by
  have hT : s.TypeIs (.ref l) "collections.deque" := ⟨_, hl, rfl⟩
  unfold Builtin.«len»
  refine wpAny_bind (m := oneArg "len" _) (wpAny_pure ?_)
  refine wpAny_bind (m := callSpecial? (.ref l) (Str.ofString "__len__")) (wpAny_callSpecial?_slot (name := Str.ofString "__len__") hT slot_dq_len
    (wpAny_call_entry slot_dq_len hT entry_dq_len ?_ (args_dq_len _)))
  · show wpAny _ _ (do retInt (← Deque.size (.ref l))) _ _ s
    unfold Deque.size
    refine wpAny_bind (wpAny_bind (Looks.here (looks_fields (M := model prog w) hl) ?_))
    refine wpAny_pure (wpAny_bind (wpAny_mkInt (wpAny_pure ⟨_, rfl, ?_⟩)))
    refine wpAny_bind (wpAny_holding (wpAny_pure ?_))
    refine wpAny_bind (wpAny_letGo ?_)
    exact wpAny_bind (wpAny_mkInt (wpAny_pure ⟨_, rfl, h⟩))
theorem truthy_dq {l : Addr} {Q : Bool → Shared → Prop} (hl : s.heap.get? l = some dqObj)
    (h : Q false { s with toks := s.toks + 1 + 1 }) : wpAny (model prog w) A (truthy (.ref l)) Q E s := by
  have hT : s.TypeIs (.ref l) "collections.deque" := ⟨_, hl, rfl⟩
  have key : wpAny (model prog w) A (runValue (.builtin "len" ⟨[.ref l], []⟩)) (fun r s' => r = .int 0 (s.toks + 1) ∧ Q false s') E s := by
    refine wpAny_runValue (codeAny_builtin entry_len ?_)
    rw [Around.under_plainId plain_len _]
    exact wpAny_mono (len_dq (Q := fun r s' => r = .int 0 (s.toks + 1) ∧ Q false s') hl ⟨rfl, h⟩)
      (fun fin s' h' => by obtain ⟨r, rfl, hq⟩ := h'; exact hq) fun _ _ e => e
  unfold truthy
  first
    | refine wpAny_bind (wpAny_callSpecial?_none (name := Str.ofString "__bool__") hT dq_nobool ?_)
    | refine wpAny_bind (wpAny_pure (wpAny_bind (wpAny_callSpecial?_none (name := Str.ofString "__bool__") hT dq_nobool ?_)))
  first
    | refine wpAny_bind (wpAny_specialOf (name := Str.ofString "__len__") hT slot_dq_len.lookup ?_)
    | refine wpAny_bind (wpAny_pure (wpAny_bind (wpAny_specialOf (name := Str.ofString "__len__") hT slot_dq_len.lookup ?_)))
  first
    | exact wpAny_bind (wpAny_mono key (fun r s' h' => by obtain ⟨rfl, hq⟩ := h'; exact wpAny_pure hq) fun _ _ e => e)
    | exact wpAny_bind (wpAny_pure (wpAny_bind (wpAny_mono key (fun r s' h' => by obtain ⟨rfl, hq⟩ := h'; exact wpAny_pure hq) fun _ _ e => e)))
theorem code_dq_new {Q₁ : Value → Shared → Prop} (h : Q₁ (.ref s.heap.objs.size) { s with heap := s.heap.push dqObj }) :
    codeAny (model prog w) A (.call (.builtin "collections.deque.__new__") ⟨[.type "collections.deque"], []⟩) (wants Q₁ E) s := by
  refine codeAny_of_tree ?_
  show wpAny _ A.in1 (do checkBuiltinCall "collections.deque.__new__" ⟨[.type "collections.deque"], []⟩; again (.builtin "collections.deque.__new__" ⟨[.type "collections.deque"], []⟩)) _ _ s
  refine wpAny_bind (wpAny_of_eq newCall_dq (wpAny_pure ⟨plainId_quiet plain_dq_new _, codeAny_builtin entry_dq_new ?_⟩))
  rw [Around.under_plainId plain_dq_new _]
  have hsub := sub_dq
  unfold Builtin.«collections.deque.__new__» Deque.newArgs Deque.new
  have hsub : isSubtype (.type "collections.deque") (.type Deque.ty) = pure true := sub_dq
  obtain ⟨hp, g, d, tk, os⟩ := s
  wp_walk
  exact h
theorem call_dq {Q : Value → Shared → Prop} (h : ∀ h', Grow s.heap h' → h'.get? s.heap.objs.size = some dqObj → Q (.ref s.heap.objs.size) { s with heap := h' }) : wpAny (model prog w) A (call (.type "collections.deque") []) Q E s := by
  refine callType_codes (Q₁ := fun obj s₁ => obj = .ref s.heap.objs.size ∧ s₁ = { s with heap := s.heap.push dqObj }) called_dq typeCall_dq entry_dq_init (code_dq_new ⟨rfl, rfl⟩) fun obj s₁ h₁ => ?_
  obtain ⟨rfl, rfl⟩ := h₁
  have hS : (s.heap.push dqObj).get? s.heap.objs.size = some dqObj := Heap.get?_push_size _ rfl
  refine ⟨⟨_, hS, rfl⟩, args_dq_init _, ?_⟩
  unfold Builtin.«collections.deque.__init__» Deque.clear Deque.items
  obtain ⟨hp, g, d, tk, os⟩ := s
  wp_walk
  refine ⟨rfl, h _ (fun b o e => ?_) ?_⟩
  · exact (Heap.get?_update_other _ _ (Ne.symm (Nat.ne_of_lt (Heap.lt_size e)))).trans (Heap.get?_push_of_some _ e)
  · exact (Heap.get?_update_self _ hS rfl).trans rfl
end
end Mine
end

section
open PySem PySem.W PyProof.Rows Builtin Builtin.ObjectAttr
set_option Elab.async false
set_option maxRecDepth 100000
set_option linter.all false
namespace Mine
section
variable {w : World} {A : Around} {C : Fc} {ρ ρ' : Rho} {μ μ' : Mu} {PH : Flow → Heap → Prop}
noncomputable def ExA (w : World) (A : Around) (C : Fc) (ρ : Rho) (μ : Mu) (ss : List Stmt) (PH : Flow → Heap → Prop) : Prop :=
  ∀ (s : Shared) (Q : Flow → Shared → Prop) (E : Value → Shared → Prop), Room C.d A → 1 ≤ s.toks → Rel w C ρ μ s.heap → (∀ fl h' tk, 1 ≤ tk → PH fl h' → Q fl { s with heap := h', toks := tk }) → wpAny (model PR w) A (execs ss C.env) Q E s
theorem ExA.then {st : Stmt} {rest : List Stmt} (h : X1To w C ρ μ st (· = .next ρ' μ')) (k : ExA w A C ρ' μ' rest PH) : ExA w A C ρ μ (st :: rest) PH :=
  fun s Q E hr h1 R hQ => wpAny_execs_cons (h A s _ _ hr h1 R fun fl o h' tk h1' p x => by
    cases p
    obtain ⟨rfl, R'⟩ := x
    exact k _ Q E hr h1' R' hQ)
theorem ExA.iff {t : PySem.Expr} {b o rest : List Stmt} {p : Pos} {c : Bool} (h : TrTo w C ρ μ t c) (hb : c = true → ExA w A C ρ μ (b ++ rest) PH) (ho : c = false → ExA w A C ρ μ (o ++ rest) PH) : ExA w A C ρ μ (.If t b o p :: rest) PH := by
  have e : execs (.If t b o p :: rest) C.env = (do standAt p; if ← isTrue t C.env (eval t C.env) then execs (b ++ rest) C.env else execs (o ++ rest) C.env) := by
    show (do match ← exec (.If t b o p) C.env with | .next => execs rest C.env | f => pure f) = _
    rw [exec_If, bind_assoc]
    congr 1
    funext _
    rw [bind_assoc]
    congr 1
    funext c
    cases c with
    | true => exact (execs_append (C := C) b rest).symm
    | false => exact (execs_append (C := C) o rest).symm
  intro s Q E hr h1 R hQ
  rw [e]
  refine wpAny_bind (wpAny_standAt (wpAny_bind (h A s _ _ hr h1 R fun h' tk h1' g => ?_)))
  cases c with
  | true => exact hb rfl _ Q E hr h1' (R.grow g) hQ
  | false => exact ho rfl _ Q E hr h1' (R.grow g) hQ
theorem ExA.nil (h : ∀ h, Rel w C ρ μ h → PH .next h) : ExA w A C ρ μ [] PH :=
  fun s Q E hr h1 R hQ => wpAny_execs_nil (hQ _ s.heap s.toks h1 (h _ R))
theorem grow_now {h : Heap} (R : Rel w C ρ μ h) : Grow C.h₀ (C.now μ h).h₀ := fun b o e => hideAll_get _ (R.keep b o e) fun q => by rw [R.new b q] at e; cases e
theorem Rel.addM {h h' : Heap} {a : Addr} {mo : MO} (R : Rel w C ρ μ h) (hn : h.get? a = Option.none) (g : Grow h h') (hm : MRel (fz (a :: exs C μ) h') h' a mo) (hal : ∃ o, h'.get? a = some o) : Rel w C ρ ((a, mo) :: μ) h' := by
  have nex : a ∉ exs C μ := fun q => by obtain ⟨o, e⟩ := R.alive _ q; rw [hn] at e; cases e
  have eex : ∀ z, z ∈ exs C ((a, mo) :: μ) ↔ z ∈ a :: exs C μ := fun z => by simp [exs, own]; constructor <;> rintro (q | q | q | q) <;> simp [q]
  have hF : ∀ b o, fz (exs C μ) h b = some o → fz (exs C ((a, mo) :: μ)) h' b = some o := fun b o e => fz_of (fun q => by
    rcases List.mem_cons.mp ((eex b).mp q) with rfl | q
    · rw [fz_get e] at hn; cases hn
    · exact fz_not e q) (g _ _ (fz_get e))
  have hF2 : ∀ b o, fz (a :: exs C μ) h' b = some o → fz (exs C ((a, mo) :: μ)) h' b = some o := fun b o e => fz_of (fun q => fz_not e ((eex b).mp q)) (fz_get e)
  have nd := R.nd
  unfold own at nd
  rw [List.nodup_cons] at nd
  refine ⟨R.ok, R.keep.trans g, ?_, fun p hp => ?_, fun b hb => ?_, ?_, fun b hb q => ?_, fun b hb => ?_⟩
  · obtain ⟨m, hm, r⟩ := R.ns
    exact ⟨m, hm.keeps g, fun x av hx => let ⟨v, hv, k⟩ := r x av hx; ⟨v, hv, VR.mono hF _ _ k⟩⟩
  · rcases List.mem_cons.mp hp with rfl | hp
    · exact MRel.keep hF2 (fun _ e => e) hm
    · exact MRel.keep hF (fun o e => g _ _ e) (R.mus p hp)
  · simp only [own, List.map_cons, List.mem_cons] at hb
    rcases hb with rfl | rfl | hb
    · exact R.new _ (by simp [own])
    · cases q : C.h₀.get? b with
      | none => rfl
      | some o => rw [R.keep _ _ q] at hn; cases hn
    · exact R.new _ (by simp only [own, List.mem_cons]; exact .inr hb)
  · unfold own
    rw [List.map_cons, List.nodup_cons, List.nodup_cons]
    refine ⟨fun q => ?_, fun q => ?_, nd.2⟩
    · rcases List.mem_cons.mp q with q | q
      · exact nex (by rw [← (show C.env.locals = a from q)]; simp [exs, own])
      · exact nd.1 q
    · exact nex (by unfold exs own; exact List.mem_append_left _ (List.mem_cons_of_mem _ q))
  · simp only [own, List.map_cons, List.mem_cons] at hb
    rcases hb with rfl | rfl | hb
    · exact R.dj _ (by simp [own]) q
    · exact nex (by unfold exs; exact List.mem_append_right _ q)
    · exact R.dj _ (by simp only [own, List.mem_cons]; exact .inr hb) q
  · rcases List.mem_cons.mp ((eex b).mp hb) with rfl | hb
    · exact hal
    · obtain ⟨o, e⟩ := R.alive b hb; exact ⟨o, g _ _ e⟩
end
theorem enterA {PP : Heap → Prop} {w : World} {d : Nat} {f : Addr} {name qual : Str} {params : Arguments} {body : List Stmt} {scope : Scope} {dV kV doc pm cdv ct oc : Value} {an od : Option Addr} {osl : Array (Option Value)} {args : List AV} {kw : List (Str × Value)} {μ₀ : Mu} {ρ : Rho}
    (ho : (KF w).lookup f = some ⟨oc, od, .func (fnOf name qual params body scope dV kV doc pm an cdv ct), osl⟩) (hcd : codeIn (KF w) cdv qual = true)
    (hb : BindTo w (fnOf name qual params body scope dV kV doc pm an cdv ct) args kw ρ)
    (hco : scope.isCoroutine = false) (hgen : scope.isGenerator = false) (hk : scope.kind = .function) (hcell : ∀ x ∈ scope.names, x.2 ≠ .cell) (hg : ∀ h h', PP h → Grow h h' → PP h')
    {A : Around} {s : Shared} {ex : List Addr} {vs : List Value} {R : Result → Shared → Prop} (hroom : Room (d + 1) A) (h1 : 1 ≤ s.toks) (P : Pre w PP ex args vs μ₀ s.heap)
    (h : ∀ (h₀ : Heap) (L : Addr) (ex' : List Addr) (A' : Around), A' = A.deeper (envOf qual scope L f cdv) → PP h₀ → Grow (hideAll s.heap (ads μ₀)) h₀ → (∀ a, a ∈ exs ⟨h₀, envOf qual scope L f cdv, ex', d⟩ μ₀ ↔ a = L ∨ a ∈ ex) → s.heap.get? L = none → h₀.get? L = none →
      Room d A' → ∀ (s' : Shared) (E : Value → Shared → Prop), (∃ h' tk, s' = { s with heap := h', toks := tk } ∧ Grow s.heap h') → 1 ≤ s'.toks → Rel w ⟨h₀, envOf qual scope L f cdv, ex', d⟩ ρ μ₀ s'.heap →
      (∀ e s'', wpAny (model PR w) A' (leaving (envOf qual scope L f cdv) e) (fun _ s'' => R (.error e) s'') (fun e' s'' => R (.error e') s'') s'' → E e s'') →
      wpAny (model PR w) A' (execs body (envOf qual scope L f cdv)) (fun fl s'' => R (.ok (.ret (match fl with | .ret v => v | _ => .none))) s'') E s') : codeAny (model PR w) A (.call (.ref f) ⟨vs, kw⟩) R s := by
  have B : Base w s.heap := P.base.grow fun b o e => of_hideAll _ e
  obtain ⟨_, _, _, mg, mb, T⟩ := B.top
  refine codeAny_call_function (fd := fnOf name qual params body scope dV kV doc pm an cdv ct) (by have := hroom.1.1; (first | lia | omega)) (B.kin _ _ ho) rfl hco hgen rfl (codeRec_of B.kin hcd) ?_
  refine tok1 h1 (hb _ _ ex vs _ _ B P.alive P.args fun binds h₁ tk₁ g₁ hbr hbl => ?_)
  intro h11
  refine wpAny_newFunctionEnv hcell hbl (fun h₂ hns hsb => ?_) hk
  have g2 : Grow h₁ h₂ := fun b o e => hsb.extBut b o (Nat.ne_of_lt (Heap.lt_size e)) (Heap.get?_push_of_some _ e)
  refine ⟨T.nolimit.keeps (g₁.trans g2), codeAny_func ?_⟩
  have hnew : h₁.get? h₁.objs.size = none := get?_size_none _
  have hal : ∀ a, a ∈ ex → a ≠ h₁.objs.size := fun a ha q => by
    obtain ⟨o, e⟩ := P.alive a ha
    have := g₁ _ _ e
    rw [q, hnew] at this; cases this
  have hadx : ∀ a ∈ ads μ₀, a ∈ ex := fun a ha => by obtain ⟨p, hp, rfl⟩ := List.mem_map.mp ha; exact P.inn p hp
  have gh : Grow (hideAll s.heap (ads μ₀)) (hideAll h₁ (ads μ₀)) := fun b o e => hideAll_get _ (g₁ _ _ (of_hideAll _ e)) fun q => by rw [hideAll_none _ q] at e; cases e
  let ex' := ex.filter fun a => decide (a ∉ ads μ₀)
  let C : Fc := ⟨hideAll h₁ (ads μ₀), envOf qual scope h₁.objs.size f cdv, ex', d⟩
  have hexs : ∀ a, a ∈ exs C μ₀ ↔ a = h₁.objs.size ∨ a ∈ ex := fun a => by
    show a ∈ (h₁.objs.size :: ads μ₀) ++ ex' ↔ _
    simp only [ex', List.cons_append, List.mem_cons, List.mem_append, List.mem_filter, decide_eq_true_eq]
    constructor
    · rintro (q | q | q)
      · exact .inl q
      · exact .inr (hadx a q)
      · exact .inr q.1
    · rintro (q | q)
      · exact .inl q
      · by_cases z : a ∈ ads μ₀
        · exact .inr (.inl z)
        · exact .inr (.inr ⟨q, z⟩)
  have hF : ∀ a o, fz ex h₁ a = some o → fz (exs C μ₀) h₂ a = some o := fun a o e => fz_of (fun q => by
    rcases (hexs a).mp q with rfl | q
    · rw [fz_get e] at hnew; cases hnew
    · exact fz_not e q) (g2 _ _ (fz_get e))
  have hL0 : (hideAll h₁ (ads μ₀)).get? h₁.objs.size = none := by
    cases q : (hideAll h₁ (ads μ₀)).get? h₁.objs.size with
    | none => rfl
    | some o => have := of_hideAll _ q; rw [hnew] at this; cases this
  have RR : Rel w C ρ μ₀ h₂ := by
    refine ⟨⟨P.base.grow gh, hk, rfl, rfl⟩, fun b o e => g2 _ _ (of_hideAll _ e), ⟨_, hns, ?_⟩, fun p hp => ?_, ?_, ?_, ?_, ?_⟩
    · intro x av e
      obtain ⟨v, hv, k⟩ := hbr x av e
      exact ⟨v, hv, VR.mono hF _ _ k⟩
    · exact MRel.keep (fun a o e => hF a o (fz_of (fz_not e) (g₁ _ _ (fz_get e)))) (fun o e => g2 _ _ (g₁ _ _ e)) (P.mus p hp)
    · intro a ha
      show (hideAll h₁ (ads μ₀)).get? a = none
      rcases List.mem_cons.mp (show a ∈ h₁.objs.size :: ads μ₀ from ha) with rfl | ha
      · exact hL0
      · exact hideAll_none _ ha
    · exact List.nodup_cons.mpr ⟨fun q => hal _ (hadx _ q) rfl, P.nd⟩
    · intro a ha q
      have q := List.mem_filter.mp q
      rcases List.mem_cons.mp (show a ∈ h₁.objs.size :: ads μ₀ from ha) with rfl | ha
      · exact hal _ q.1 rfl
      · exact of_decide_eq_true q.2 ha
    · intro a ha
      rcases (hexs a).mp ha with rfl | ha
      · obtain ⟨o, _, _, e, _⟩ := hns; exact ⟨o, e⟩
      · obtain ⟨o, e⟩ := P.alive a ha; exact ⟨o, g2 _ _ (g₁ _ _ e)⟩
  have hsL : s.heap.get? h₁.objs.size = none := by
    cases q : s.heap.get? h₁.objs.size with
    | none => rfl
    | some o => have := g₁ _ _ q; rw [hnew] at this; cases this
  refine h (hideAll h₁ (ads μ₀)) h₁.objs.size ex' (A.deeper (callEnv (fnOf name qual params body scope dV kV doc pm an cdv ct) h₁.objs.size f)) rfl (hg _ _ P.pp gh) gh hexs hsL hL0 ⟨⟨?_, ?_⟩, ?_, hroom.2.2⟩ _ _ ⟨h₂, _, rfl, g₁.trans g2⟩ ?_ RR fun e s'' z => z
  · have := hroom.1.1
    show A.depth + 1 + d + 120 < recursionLimit
    (first | lia | omega)
  · obtain ⟨env, l, hf, _⟩ := hroom.1.2
    exact ⟨_, _, Around.frames_deeper hf, hgen, hco, rfl, rfl⟩
  · have := hroom.2.1
    show A.units + 3 + 10 * d + 100 < cLine
    (first | lia | omega)
  · show 1 ≤ tk₁ + _
    have : 1 ≤ tk₁ := h11
    (first | lia | omega)
end Mine
end

section
open PySem PySem.W PyProof.Rows Builtin Builtin.ObjectAttr
set_option Elab.async false
set_option maxRecDepth 100000
set_option linter.all false
namespace Mine
section
variable {w : World} {A : Around} {R : Result → Shared → Prop} {h : Heap} {g : Array GenState} {d : Drawn} {t : Nat} {os : OsState}
theorem io_base (X : (KF w).In h) : Looks (model PR w) h (Bind.staticBase (.ref 705)) (.type "object") := Looks.of_peek X (by kernel_rfl)
theorem ob_new : typeLookup (.type "object") "__new__" = pure (some (.builtin "object.__new__")) := by rw [typeLookup_type, builtinLookup_eq_fast]; kernel_rfl
theorem ob_made : Bind.madeBy (.type "object") = pure (some "object.__new__") := madeBy_type PySem.F.mro_object ob_new (by decide +kernel)
theorem ob_mb : Looks (model PR w) h (Bind.madeBy (.type "object")) (some "object.__new__") := Looks.of_pure ob_made
theorem io_here (X : (KF w).In h) : Looks (model PR w) h (Bind.madeHere "object.__new__" (.ref 705)) () := (io_base X).andThen (ob_mb.andThen (Looks.of_pure (by simp only [Option.map_some, bne_self_eq_false, Bool.false_eq_true, if_false])))
theorem io_made (X : (KF w).In h) : Looks (model PR w) h (Bind.madeBy (.ref 705)) none := Looks.of_peek X (by kernel_rfl)
theorem io_self (X : (KF w).In h) : Looks (model PR w) h (isSubtype (.ref 705) (.ref 705)) true := looks_mroIn X (by kernel_rfl)
theorem io_top (X : (KF w).In h) : Looks (model PR w) h (isSubtype (.ref 705) (.type "object")) true := looks_mroIn X (by kernel_rfl)
theorem io_call (X : (KF w).In h) : Looks (model PR w) h (specialOf (.ref 705) "__call__") (some (.builtin "type.__call__")) := looks_specialIn X (by kernel_rfl)
theorem io_typ (X : (KF w).In h) : Looks (model PR w) h (isInstance (.ref 705) (.type "type")) true := looks_instIn X (by kernel_rfl)
theorem io_cls : ∃ oc od cd sl, (KF w).lookup 705 = some ⟨oc, od, .cls cd, sl⟩ ∧ cd.abstract = false ∧ cd.hasDel = false ∧ cd.mro.isEmpty = false := by
  have h : ((KF w).lookup 705).any (fun o => match o.data with | .cls cd => !cd.abstract && !cd.hasDel && !cd.mro.isEmpty | _ => false) = true := by kernel_rfl
  obtain ⟨o, e, h⟩ := any_some h
  obtain ⟨oc, od, dt, sl⟩ := o
  cases dt with
  | cls cd =>
    simp only [Bool.and_eq_true, Bool.not_eq_true'] at h
    exact ⟨oc, od, cd, sl, e, h.1.1, h.1.2, h.2⟩
  | _ => cases h
theorem new_io (X : (KF w).In h) (hq : R (.ok (.ret (.ref (h.objs.size + 1)))) ⟨(h.push emptyDict).push (instObj 705 h.objs.size), g, d, t, os⟩) :
    codeAny (model PR w) A (.call (.builtin "object.__new__") ⟨[.ref 705], []⟩) R ⟨h, g, d, t, os⟩ := by
  obtain ⟨oc, od, cd, sl, hC0, e1, e2, e4⟩ := io_cls (w := w)
  have hC := X _ _ hC0
  have F := PySem.F.objNew
  have here := io_here X
  have base := io_base X
  have self := io_self X
  have top := io_top X
  have typ := io_typ X
  have mb := ob_mb (w := w) (h := h)
  refine codeAny_call_builtin_code (Code.quiet_builtin _ F.quiet) ?_
  simp only [checkBuiltinCall, F.kind, F.split, F.row]
  have args : Bind.checkArgs "object.__new__" ⟨.hand, "object.__new__", "__new__", .cls, []⟩ ⟨[.ref 705], []⟩ = pure () := by kernel_rfl
  rw [args]
  repeat (first | simp only [bne_self_eq_false, Bool.false_eq_true, if_false] | lk)
  refine codeAny_builtin F.entry ?_
  unfold Builtin.«object.__new__»
  have fin : ∀ A', wpAny (model PR w) A' (do
      let d ← if typeHasDict (.ref 705) then some <$> alloc { cls := .type "dict", data := .dict #[] } else pure none
      ret (← newObj (.ref 705) .plain d)) (fun fin s' => match fin with | .done f => R (.ok f) s' | .again c' => c'.quiet = true ∧ codeAny (model PR w) A c' R s') (fun e s' => R (.error e) s') ⟨h, g, d, t, os⟩ := by
    intro A'
    show wpAny _ _ ((alloc emptyDict >>= fun x => pure (some x)) >>= _) _ _ _
    refine wpAny_bind (wpAny_bind (wpAny_alloc (wpAny_pure (wpAny_bind ?_))))
    show wpAny _ _ (newObjAsIs _ _ _) _ _ _
    unfold newObjAsIs classHasDel
    refine wpAny_bind (wpAny_alloc (wpAny_bind (wpAny_bind (wpAny_load (Heap.get?_push_of_some _ (Heap.get?_push_of_some _ hC)) (wpAny_pure ?_)))))
    rw [e2]
    refine wpAny_pure (wpAny_pure ?_)
    show R _ _
    rw [Heap.size_push]
    exact hq
  repeat (first | simp only [e1, Bool.false_eq_true, if_false] | exact fin _ | lk)
end
end Mine
end

section
open PySem PySem.W PyProof.Rows Builtin Builtin.ObjectAttr
set_option Elab.async false
set_option maxRecDepth 100000
set_option linter.all false
namespace Mine
section
variable {w : World} {A : Around} {C : Fc} {ρ ρ' : Rho} {μ μ' pre post : Mu} {PH : Flow → Heap → Prop} {c : Addr} {co : Option AV}
theorem Rel.cellput {h h' : Heap} {av : AV} {v : Value} (R : Rel w C ρ (pre ++ (c, MO.cell co) :: post) h) (k : VR (fz (exs C (pre ++ (c, MO.cell co) :: post)) h) av v) (hv : h'.IsCell c (some v)) (hs : Heap.SameBut c h h') :
    Rel w C ρ (pre ++ (c, MO.cell (some av)) :: post) h' := by
  obtain ⟨o, e, d⟩ := hv
  exact R.mupd hs ⟨o, e, v, d, VR.mono (fz_same (by unfold exs own; simp) hs) _ _ k⟩ ⟨o, e⟩
theorem Rel.isCell {h : Heap} (R : Rel w C ρ (pre ++ (c, MO.cell co) :: post) h) : ∃ v, h.IsCell c v := by
  have M := R.mus (c, .cell co) (by simp)
  cases co with
  | none => obtain ⟨o, e, d⟩ := M; exact ⟨_, o, e, d⟩
  | some av => obtain ⟨o, e, u, d, _⟩ := M; exact ⟨_, o, e, d⟩
theorem store_cell {s : Shared} {Q : Unit → Shared → Prop} {E : Value → Shared → Prop} {x : Str} {av : AV} {v : Value} (R : Rel w C ρ (pre ++ (c, MO.cell co) :: post) s.heap) (k : VR (fz (exs C (pre ++ (c, MO.cell co) :: post)) s.heap) av v) (hk : C.env.kindOf x = some .cell) (hc : C.env.cells.lookup x = some c)
    (hQ : ∀ h', Rel w C ρ (pre ++ (c, MO.cell (some av)) :: post) h' → Heap.SameBut c s.heap h' → Q () { s with heap := h' }) : wpAny (model PR w) A (storeName C.env x v) Q E s := by
  obtain ⟨v0, hv0⟩ := R.isCell
  exact wpAny_storeName_cell R.ok.kind hk hc hv0 fun h' hv hs => hQ h' (R.cellput k hv hs) hs
end
end Mine
end

section
open PySem PySem.W PyProof.Rows
set_option Elab.async false
set_option maxRecDepth 100000
set_option maxHeartbeats 0
set_option linter.all false
namespace Mine
local macro_rules | `(tactic| walk_at "le") => `(tactic| first | omega | ((try simp only [List.length_append, List.length_cons, List.length_nil]); omega))
local macro_rules | `(tactic| walk_at "lk") => `(tactic| first | with_reducible assumption | with_reducible exact put_same | (refine put_other (by decide) ?_; walk_at "lk") | rfl)
local macro_rules | `(tactic| walk_at "my_glob") => `(tactic| with_reducible first | exact g_fspath | exact g_get_sep | exact g_join_posixpath | exact g_splitroot | exact g_normpath | exact g_index | exact g_quote | exact g_law_tour | exact g_law_spell | exact g_law_line | exact g_law_text | exact g_split)
local macro_rules | `(tactic| walk_at "my_noglob") => `(tactic| with_reducible first | exact n_type | exact n_issubclass | exact n_isinstance | exact n_str | exact n_bytes | exact n_len | exact n_range | exact n_enumerate | exact n_max | exact n_int | exact n_bool | exact n_list)
local macro_rules | `(tactic| walk_at "my_boot") => `(tactic| with_reducible first | exact boot_type | exact Boot.issubclass | exact Boot.isinstance | exact boot_str | exact boot_bytes | exact boot_len | exact boot_range | exact boot_enumerate | exact boot_max | exact boot_int | exact boot_bool | exact boot_list)
local macro_rules | `(tactic| walk_at "my_op") => `(tactic| first
  | with_reducible first | exact op_eqs | exact op_nes | exact op_ins | exact op_nins | exact op_addi | exact op_lti | exact op_eqsn | exact op_eqnn | exact op_eqi | exact op_gei | exact op_gti | exact op_isn | exact op_isnn | exact op_subi | exact op_iaddi
  | ((with_reducible first | refine op_adds ?_ | refine op_iadds ?_); walk_at "le")
  | ((with_reducible first | refine op_modi ?_ | refine op_divi ?_); decide)
  | ((with_reducible show Op2 _ _ _ _ _ _ (AV.tup [_, _]) _); first | exact op_intup (ys := [_, _]) | exact op_nintup (ys := [_, _]))
  | exact op_intup (ys := [_, _, _]))
local macro_rules | `(tactic| walk_at "my_truth") => `(tactic| with_reducible first | exact op_truths | exact op_truthb | exact op_truthn | exact op_truthl | exact op_truthm (List.Mem.head _) | exact op_truthm (List.Mem.tail _ (List.Mem.head _)))
local macro_rules | `(tactic| walk_at "my_part") => `(tactic| first | with_reducible exact PartTo.non | ((with_reducible refine' PartTo.som ?q1); (case q1 => walk_at "ev")))
local macro_rules | `(tactic| walk_at "my_args") => `(tactic| first | with_reducible exact ArgsTo.nil | (refine' ArgsTo.cons ?q1 ?q2; (case q1 => walk_at "ev"); (case q2 => walk_at "my_args")))
local macro_rules | `(tactic| walk_at "my_len") => `(tactic| first | exact Nat.le_of_ble_eq_true rfl | decide | (simp; done) | (simp; omega))
local macro_rules | `(tactic| walk_at "my_cal") => `(tactic| first | with_reducible exact cal_b | with_reducible exact cal_t | exact cal_f (by rfl) (by rfl))
local macro_rules | `(tactic| walk_at "ev") => `(tactic| first
  | with_reducible first | exact EvTo.cstr | exact EvTo.cint | exact EvTo.cbool | exact EvTo.cnone
  | ((with_reducible show EvTo _ _ _ _ (PySem.Expr.Name _ _) _); first | exact EvTo.name (by walk_at "lk") | exact EvTo.glob (by walk_at "my_glob") | exact EvTo.blt (by walk_at "my_noglob") (by walk_at "my_boot") | exact EvTo.cell (by walk_at "my_mem"))
  | ((with_reducible first | refine' EvTo.binop ?q1 ?q2 ?q3 | refine' EvTo.cmp ?q1 ?q2 ?q3); (case q1 => walk_at "ev"); (case q2 => walk_at "ev"); (case q3 => walk_at "my_op"))
  | ((with_reducible first | refine' EvTo.list ?q1 ?q2 | refine' EvTo.tup ?q1 ?q2); (case q1 => walk_at "my_args"); (case q2 => walk_at "my_len"))
  | ((with_reducible show EvTo _ _ _ _ (PySem.Expr.Call (PySem.Expr.Name _ _) _ _ _) _); refine' EvTo.call ?q1 ?q2 ?q3 ?q4; (case q1 => walk_at "ev"); (case q2 => walk_at "my_args"); (case q3 => walk_at "my_con"); (case q4 => walk_at "my_cal"))
  | ((with_reducible show EvTo _ _ _ _ (PySem.Expr.Call _ _ _ _) _); refine' EvTo.smeth ?q1 ?q2 ?q3 ?q4; (case q1 => walk_at "ev"); (case q2 => walk_at "my_gm"); (case q3 => walk_at "my_args"); (case q4 => walk_at "my_con"))
  | ((with_reducible refine' EvTo.neg ?q1); (case q1 => walk_at "ev"))
  | ((with_reducible show EvTo _ _ _ _ (PySem.Expr.Subscript _ (PySem.Expr.UnaryOp _ _ _) _) _); refine' EvTo.lastm ?q1 ?q2 ?q3 ?q4; (case q1 => walk_at "ev"); (case q2 => exact List.Mem.head _); (case q3 => walk_at "ev"); (case q4 => exact last_of (by assumption)))
  | ((with_reducible show EvTo _ _ _ _ (PySem.Expr.Attribute _ _ _) _); walk_at "my_attr")
  | ((with_reducible show EvTo _ _ _ _ (PySem.Expr.Subscript _ (PySem.Expr.Slice _ _ _ _) _) _); (first | refine' EvTo.slices ?q1 ?q2 ?q3 | refine' EvTo.slicel ?q1 ?q2 ?q3); (case q1 => walk_at "ev"); (case q2 => walk_at "my_part"); (case q3 => walk_at "my_part"))
  | ((with_reducible show EvTo _ _ _ _ (PySem.Expr.Subscript _ _ _) _); walk_at "my_item"))
local macro_rules | `(tactic| walk_at "my_item") => `(tactic| fail "no item")
local macro_rules | `(tactic| walk_at "my_gm") => `(tactic| with_reducible first | exact gm_startswith | exact gm_endswith | exact gm_join | exact gm_split | exact gm_replace)
local macro_rules | `(tactic| walk_at "my_at") => `(tactic| first | with_reducible exact ATo.andNil | with_reducible exact ATo.orNil | ((with_reducible refine' ATo.and ?q1 (fun _ => ?q2)); (case q1 => walk_at "tr"); (case q2 => walk_at "my_at")) | ((with_reducible refine' ATo.or ?q1 (fun _ => ?q2)); (case q1 => walk_at "tr"); (case q2 => walk_at "my_at")))
local macro_rules | `(tactic| walk_at "tr") => `(tactic| first
  | ((with_reducible refine' TrTo.cmp ?q1 ?q2 ?q3); (case q1 => walk_at "ev"); (case q2 => walk_at "ev"); (case q3 => walk_at "my_op"))
  | ((with_reducible refine' TrTo.not ?q1); (case q1 => walk_at "tr"))
  | ((with_reducible refine' TrTo.boolop ?q1); (case q1 => walk_at "my_at"))
  | (refine' TrTo.value ?q1 ?q2; (case q1 => walk_at "ev"); (case q2 => walk_at "my_truth")))
local macro_rules | `(tactic| walk_at "st") => `(tactic| first
  | ((with_reducible show ExTo _ _ _ _ (PySem.Stmt.Assign [PySem.Expr.Name _ _] _ _ :: _) _); refine' ExTo.then (X1To.assign ?q1) ?_; (case q1 => walk_at "ev"))
  | ((with_reducible show ExTo _ _ _ _ (PySem.Stmt.AugAssign (PySem.Expr.Name _ _) _ _ _ :: _) _); refine' ExTo.then (X1To.aug (by walk_at "lk") ?q1 ?q2) ?_; (case q1 => walk_at "ev"); (case q2 => walk_at "my_op"))
  | ((with_reducible show ExTo _ _ _ _ (PySem.Stmt.Return (some _) _ :: _) _); refine' ExTo.ret ?q1 ?_; (case q1 => walk_at "ev")))
local macro_rules | `(tactic| walk_at "app") => `(tactic| try dsimp only [List.cons_append, List.nil_append])
local macro_rules | `(tactic| walk_at "if") => `(tactic| (refine' ExTo.iff ?q1 ?_ ?_; (case q1 => walk_at "tr")))
local macro_rules | `(tactic| walk_at "my_mem") => `(tactic| first | exact List.Mem.head _ | exact List.Mem.tail _ (List.Mem.head _) | exact List.Mem.tail _ (List.Mem.tail _ (List.Mem.head _)))
local macro_rules | `(tactic| walk_at "my_attr") => `(tactic| fail "no attr")
section
section
variable {w : World} {d : Nat}
local macro_rules | `(tactic| walk_at "my_con") => `(tactic| with_reducible first | exact call_typeof | exact call_issub | exact call_isi_bytes)
theorem fspath_ok {x : List Nat} : CallsTo w (d + 1) (.ref 117) [.str x] (.str x) := by
  refine enter [Str.ofString "path"] (by rfl) (by kernel_rfl) (fun vs h => ?_) (by decide) (by decide) (fun h₀ L ex => ?_) rfl rfl rfl (by decide)
  · (obtain ⟨v, rfl⟩ := ln1 h; rfl)
  · walk_at "st"
    refine' ExTo.iff ?q1 (fun _ => ?_) ?q2
    (case q1 => walk_at "tr")
    (case q2 => intro h; cases h)
    dsimp only [List.cons_append]
    walk_at "st"
    exact Back.same
theorem getsep_ok {x : List Nat} : CallsTo w (d + 1) (.ref 131) [.str x] (.str (lit "/")) := by
  refine enter [Str.ofString "path"] (by rfl) (by kernel_rfl) (fun vs h => ?_) (by decide) (by decide) (fun h₀ L ex => ?_) rfl rfl rfl (by decide)
  · (obtain ⟨v, rfl⟩ := ln1 h; rfl)
  · refine' ExTo.iff ?q1 ?q2 (fun h => ?_)
    (case q1 => walk_at "tr")
    (case q2 => intro h; cases h)
    dsimp only [List.cons_append]
    walk_at "st"
    exact Back.same
end
end
section
local macro_rules | `(tactic| walk_at "my_con") => `(tactic| first | with_reducible exact fspath_ok | with_reducible exact getsep_ok | with_reducible exact call_isi_bytes | ((with_reducible refine' call_startswith' (c := 47) ?h); (case h => rfl)) | ((with_reducible refine' call_endswith' (c := 47) ?h); (case h => rfl)))
section
variable {w : World} {d : Nat}
noncomputable def jstep (path b : List Nat) : List Nat := if b.head? == some 47 || path.isEmpty then b else if path.getLast? == some 47 then path ++ b else path ++ (47 :: b)
noncomputable def joinS (a : List Nat) (ps : List (List Nat)) : List Nat := ps.foldl jstep a
theorem jstep_len (path b : List Nat) : (jstep path b).length ≤ path.length + b.length + 1 := by
  unfold jstep; split <;> (try split) <;> (try simp) <;> (first | lia | omega)
theorem joinS_len : ∀ (ps : List (List Nat)) (a : List Nat), (joinS a ps).length ≤ a.length + (ps.map (·.length)).sum + ps.length
  | [], a => by simp [joinS]
  | b :: ps, a => by
    have := joinS_len ps (jstep a b)
    have := jstep_len a b
    show (joinS (jstep a b) ps).length ≤ _
    simp only [List.map_cons, List.sum_cons, List.length_cons]
    (first | lia | omega)
theorem joinS_take {a : List Nat} {ps : List (List Nat)} {i : Nat} {b : List Nat} (h : ps[i]? = some b) : joinS a (ps.take (i + 1)) = jstep (joinS a (ps.take i)) b := by
  rw [List.take_succ, h]
  simp [joinS, List.foldl_append]
theorem sum_take_le : ∀ (ps : List (List Nat)) (i : Nat), ((ps.take i).map (·.length)).sum ≤ (ps.map (·.length)).sum
  | [], i => by simp
  | b :: ps, 0 => by simp
  | b :: ps, i + 1 => by simp only [List.take_succ_cons, List.map_cons, List.sum_cons]; have := sum_take_le ps i; (first | lia | omega)
theorem len_mem_le {ps : List (List Nat)} {i : Nat} {b : List Nat} (h : ps[i]? = some b) : ((ps.take i).map (·.length)).sum + b.length ≤ (ps.map (·.length)).sum := by
  have := sum_take_le ps (i + 1)
  rw [List.take_succ, h] at this
  simpa using this

theorem join_ok {a : List Nat} {ps : List (List Nat)} (hl : a.length + (ps.map (·.length)).sum + ps.length ≤ LIM) : CallsTo w (d + 2) (.ref 138) (.str a :: ps.map AV.str) (.str (joinS a ps)) := by
  refine enterB (by rfl) (by kernel_rfl) (BindTo.rest (x := Str.ofString "a") (y := Str.ofString "p") (by decide) (fun v vs => ?_) rfl rfl (by simp; (first | lia | omega))) (fun h₀ L ex => ?_) rfl rfl rfl (by decide)
  · match vs with
    | [] => rfl
    | _ :: _ => rfl
  · walk_at "st"
    walk_at "st"
    walk_at "st"
    refine' ExTo.cons (P1 := fun o => ∃ ρ', o = .next ρ' [] ∧ ρ'.lookup (Str.ofString "path") = some (.str (joinS a ps))) (X1To.try ?_) ?_ (by rintro _ _ ⟨_, e, _⟩; cases e) (by rintro _ _ ⟨_, e, _⟩; cases e) (by rintro _ _ _ ⟨_, e, _⟩; cases e)
    · refine' ExTo.cons (P1 := fun o => ∃ ρ', o = .next ρ' [] ∧ ρ'.lookup (Str.ofString "path") = some (.str (joinS a ps))) (X1To.fort (fun i ρ' μ' => μ' = [] ∧ ρ'.lookup (Str.ofString "path") = some (.str (joinS a (ps.take i))) ∧ ρ'.lookup (Str.ofString "sep") = some (.str (lit "/"))) (EvTo.name (by rfl)) ⟨rfl, rfl, rfl⟩ ?_ ?_) ?_ (by rintro _ _ ⟨_, e, _⟩; cases e) (by rintro _ _ ⟨_, e, _⟩; cases e) (by rintro _ _ _ ⟨_, e, _⟩; cases e)
      · rintro h₀' i v ρ' μ' hv ⟨rfl, hp, hs⟩
        rw [List.getElem?_map] at hv
        cases hb : ps[i]? with
        | none => rw [hb] at hv; cases hv
        | some b =>
        rw [hb] at hv
        cases hv
        have l1 := joinS_len (ps.take i) a
        have l2 := len_mem_le hb
        have l3 : (ps.take i).length < ps.length := by
          have : i < ps.length := by
            rcases Nat.lt_or_ge i ps.length with q | q
            · exact q
            · rw [List.getElem?_eq_none q] at hb; cases hb
          simp; (first | lia | omega)
        have e := joinS_take (a := a) hb
        have hs1 : (lit "/").length = 1 := rfl
        walk_at "st"
        dsimp only
        refine' ExTo.iff ?q1 (fun h => ?_) (fun h => ?_)
        case q1 => walk_at "tr"
        all_goals walk_at "app"
        · walk_at "st"
          refine ExTo.nil ⟨rfl, ?_, ?_⟩
          · rw [e, put_same]; unfold jstep; rw [if_pos (by simpa using h)]
          · walk_at "lk"
        · refine' ExTo.iff ?q1 (fun h' => ?_) (fun h' => ?_)
          case q1 => walk_at "tr"
          all_goals walk_at "app"
          · walk_at "st"
            refine ExTo.nil ⟨rfl, ?_, ?_⟩
            · rw [e, put_same]; unfold jstep; rw [if_neg (by simpa using h), if_pos (by simpa using h')]
            · walk_at "lk"
          · walk_at "st"
            refine ExTo.nil ⟨rfl, ?_, ?_⟩
            · rw [e, put_same]; unfold jstep; rw [if_neg (by simpa using h), if_neg (by simpa using h')]; rfl
            · walk_at "lk"
      · rintro ρ' μ' ⟨rfl, hp, hs⟩
        exact ⟨ρ', rfl, by simpa using hp⟩
      · rintro ρ' μ' ⟨ρ', e, h⟩
        cases e
        exact ExTo.nil ⟨_, rfl, h⟩
    · rintro ρ' μ' ⟨ρ', e, h⟩
      cases e
      refine' ExTo.ret (EvTo.name h) Back.same
end
end
section
local macro_rules | `(tactic| walk_at "my_con") => `(tactic| first | with_reducible exact fspath_ok | with_reducible exact call_isi_bytes | ((with_reducible refine' call_split' (c := 47) ?h ?h2); (case h => rfl); (case h2 => walk_at "le")))
section
variable {w : World} {d : Nat}
noncomputable def srootS (x : List Nat) : List Nat × List Nat :=
  if sl x none (some 1) != lit "/" then ([], x) else if (sl x (some 1) (some 2) != lit "/") || (sl x (some 2) (some 3) == lit "/") then (lit "/", sl x (some 1) none) else (sl x none (some 2), sl x (some 2) none)
theorem splitroot_ok {x : List Nat} : CallsTo w (d + 2) (.ref 145) [.str x] (.tup [.str [], .str (srootS x).1, .str (srootS x).2]) := by
  refine enter [Str.ofString "p"] (by rfl) (by kernel_rfl) (fun vs h => ?_) (by decide) (by decide) (fun h₀ L ex => ?_) rfl rfl rfl (by decide)
  · (obtain ⟨v, rfl⟩ := ln1 h; rfl)
  · walk_at "st"
    walk_at "if"
    · intro h; cases h
    intro _; walk_at "app"
    walk_at "st"
    walk_at "st"
    walk_at "if"
    · intro h; walk_at "app"; walk_at "st"
      have e : srootS x = ([], x) := by unfold srootS; rw [if_pos h]
      rw [e]
      exact Back.same
    intro h1; walk_at "app"
    walk_at "if"
    · intro h; walk_at "app"; walk_at "st"
      have e : srootS x = (lit "/", sl x (some 1) none) := by unfold srootS; rw [if_neg (by rw [h1]; decide), if_pos (by simpa using h)]
      rw [e]
      exact Back.same
    · intro h; walk_at "app"; walk_at "st"
      have e : srootS x = (sl x none (some 2), sl x (some 2) none) := by unfold srootS; rw [if_neg (by rw [h1]; decide), if_neg (by simpa using h)]
      rw [e]
      exact Back.same
end
end
section
local macro_rules | `(tactic| walk_at "my_con") => `(tactic| first | with_reducible exact fspath_ok | with_reducible exact splitroot_ok | with_reducible exact call_isi_bytes | ((with_reducible refine' call_split' (c := 47) ?h ?h2); (case h => rfl); (case h2 => walk_at "le")) | ((with_reducible refine' call_join ?h2); (case h2 => walk_at "le")))
section
variable {w : World} {d : Nat}
noncomputable def nstep (init : List Nat) (acc : List (List Nat)) (comp : List Nat) : List (List Nat) :=
  if comp.isEmpty || comp == lit "." then acc
  else if comp != lit ".." || (init.isEmpty && acc.isEmpty || (!acc.isEmpty && acc.getLast? == some (lit ".."))) then acc ++ [comp]
  else if !acc.isEmpty then acc.dropLast else acc
noncomputable def ncomps (x : List Nat) : List (List Nat) := (spl 47 (srootS x).2).foldl (nstep (srootS x).1) []
noncomputable def normS (x : List Nat) : List Nat := if x.isEmpty then lit "." else if ((srootS x).1 ++ jn (lit "/") (ncomps x)).isEmpty then lit "." else (srootS x).1 ++ jn (lit "/") (ncomps x)
noncomputable def wt (l : List (List Nat)) : Nat := (l.map (·.length)).sum + l.length
theorem wt_append (a b : List (List Nat)) : wt (a ++ b) = wt a + wt b := by unfold wt; simp; (first | lia | omega)
theorem wt_spl (c : Nat) : ∀ x, wt (spl c x) = x.length + 1
  | [] => by simp [spl, wt]
  | a :: l => by
    have ih := wt_spl c l
    unfold spl
    split
    · simp only [wt, List.map_cons, List.sum_cons, List.length_cons, List.length_nil] at ih ⊢; (first | lia | omega)
    · cases h : spl c l with
      | nil => exact absurd h (spl_ne c l)
      | cons p r => rw [h] at ih; simp only [wt, List.map_cons, List.sum_cons, List.length_cons] at ih ⊢; (first | lia | omega)
theorem wt_take (l : List (List Nat)) (i : Nat) : wt (l.take i) ≤ wt l := by
  have := List.take_append_drop i l
  have h : wt l = wt (l.take i ++ l.drop i) := by rw [this]
  rw [wt_append] at h
  (first | lia | omega)
theorem wt_dropLast (l : List (List Nat)) : wt l.dropLast ≤ wt l := by
  rw [List.dropLast_eq_take]
  exact wt_take _ _
theorem nstep_wt (init : List Nat) (acc : List (List Nat)) (comp : List Nat) : wt (nstep init acc comp) ≤ wt acc + wt [comp] := by
  unfold nstep
  have := wt_dropLast acc
  split
  · (first | lia | omega)
  · split
    · rw [wt_append]; exact Nat.le_refl _
    · split <;> (first | lia | omega)
theorem sroot_len (x : List Nat) : (srootS x).1.length ≤ x.length + 1 ∧ (srootS x).2.length ≤ x.length := by
  unfold srootS
  have h1 := sl_len x (some 1) none
  have h2 := sl_len x (some 2) none
  have h3 := sl_len x none (some 2)
  have h4 : (lit "/").length = 1 := rfl
  split
  · simp
  · split
    · constructor
      · show (lit "/").length ≤ _; (first | lia | omega)
      · exact h1
    · exact ⟨Nat.le_succ_of_le h3, h2⟩
theorem foldl_take_succ {α β : Type} (f : β → α → β) (b : β) (l : List α) {i : Nat} {x : α} (h : l[i]? = some x) : (l.take (i + 1)).foldl f b = f ((l.take i).foldl f b) x := by
  rw [List.take_succ, h]; simp [List.foldl_append]
theorem wt_take_succ (l : List (List Nat)) {i : Nat} {x : List Nat} (h : l[i]? = some x) : wt (l.take (i + 1)) = wt (l.take i) + wt [x] := by
  rw [List.take_succ, h]; exact wt_append _ _

theorem normpath_ok {x : List Nat} (hx : 4 * x.length + 20 ≤ LIM) : CallsTo w (d + 3) (.ref 152) [.str x] (.str (normS x)) := by
  have hrl := sroot_len x
  have hws := wt_spl 47 (srootS x).2
  refine enter [Str.ofString "path"] (by rfl) (by kernel_rfl) (fun vs h => ?_) (by decide) (by decide) (fun h₀ L ex => ?_) rfl rfl rfl (by decide)
  · (obtain ⟨v, rfl⟩ := ln1 h; rfl)
  · walk_at "st"
    walk_at "if"
    · intro h; cases h
    intro _; walk_at "app"
    walk_at "st"
    walk_at "st"
    walk_at "st"
    walk_at "if"
    · intro h; walk_at "app"; walk_at "st"
      have e : normS x = lit "." := by unfold normS; rw [if_pos (by simpa using h)]
      rw [e]
      exact Back.same
    intro hne; walk_at "app"
    refine' ExTo.then (X1To.unpack [(Str.ofString "_", _), (Str.ofString "initial_slashes", _), (Str.ofString "path", _)] ?q1 ?q2 ?q3) ?_
    case q1 => walk_at "ev"
    case q2 => rfl
    case q3 => rfl
    dsimp only [putAll]
    walk_at "st"
    refine' ExTo.newl ArgsTo.nil (by decide) fun a => ?_
    refine' ExTo.cons (P1 := fun o => ∃ ρ', o = .next ρ' [(a, .list ((ncomps x).map AV.str))] ∧ wt (ncomps x) ≤ (srootS x).2.length + 1 ∧ ρ'.lookup (Str.ofString "new_comps") = some (.val (.ref a)) ∧ ρ'.lookup (Str.ofString "sep") = some (.str (lit "/")) ∧ ρ'.lookup (Str.ofString "dot") = some (.str (lit ".")) ∧ ρ'.lookup (Str.ofString "initial_slashes") = some (.str (srootS x).1)) (X1To.forl (fun i ρ' μ' => μ' = [(a, .list ((((spl 47 (srootS x).2).take i).foldl (nstep (srootS x).1) []).map AV.str))] ∧ wt (((spl 47 (srootS x).2).take i).foldl (nstep (srootS x).1) []) ≤ wt ((spl 47 (srootS x).2).take i) ∧ ρ'.lookup (Str.ofString "new_comps") = some (.val (.ref a)) ∧ ρ'.lookup (Str.ofString "sep") = some (.str (lit "/")) ∧ ρ'.lookup (Str.ofString "dot") = some (.str (lit ".")) ∧ ρ'.lookup (Str.ofString "dotdot") = some (.str (lit "..")) ∧ ρ'.lookup (Str.ofString "initial_slashes") = some (.str (srootS x).1)) (EvTo.name (by walk_at "lk")) ⟨rfl, Nat.le_refl _, by walk_at "lk", by walk_at "lk", by walk_at "lk", by walk_at "lk", by walk_at "lk"⟩ ?_ ?_) ?_ (by rintro _ _ ⟨_, e, _⟩; cases e) (by rintro _ _ ⟨_, e, _⟩; cases e) (by rintro _ _ _ ⟨_, e, _⟩; cases e)
    · rintro h₀' i v ρ' μ' hv ⟨rfl, hw, l1, l2, l3, l4, l5⟩
      rw [List.getElem?_map] at hv
      cases hb : (spl 47 (srootS x).2)[i]? with
      | none => rw [hb] at hv; cases hv
      | some comp =>
      rw [hb] at hv
      cases hv
      have e1 := foldl_take_succ (nstep (srootS x).1) [] _ hb
      have e2 := wt_take_succ _ hb
      have e3 := wt_take (spl 47 (srootS x).2) (i + 1)
      generalize hacc : ((spl 47 (srootS x).2).take i).foldl (nstep (srootS x).1) [] = acc at *
      have e4 := nstep_wt (srootS x).1 acc comp
      have hfin : wt (((spl 47 (srootS x).2).take (i + 1)).foldl (nstep (srootS x).1) []) ≤ wt ((spl 47 (srootS x).2).take (i + 1)) := by rw [e1, e2]; (first | lia | omega)
      dsimp only
      walk_at "if"
      · intro h; walk_at "app"
        refine' ExTo.cons X1To.continue (fun _ _ e => by cases e) (fun _ _ e => by cases e) ?_ (fun _ _ _ e => by cases e)
        intro ρ2 μ2 e
        cases e
        have : nstep (srootS x).1 acc comp = acc := by unfold nstep; rw [if_pos (by simpa using h)]
        exact ⟨by rw [e1, this], hfin, by walk_at "lk", by walk_at "lk", by walk_at "lk", by walk_at "lk", by walk_at "lk"⟩
      intro hc; walk_at "app"
      have hcond : ∀ c : Bool, c = (comp != lit ".." || (!!(srootS x).1.isEmpty && (!!(acc.map AV.str).isEmpty && true) || ((!(acc.map AV.str).isEmpty && (acc.getLastD [] == lit ".." && true)) || false))) → c = (comp != lit ".." || ((srootS x).1.isEmpty && acc.isEmpty || (!acc.isEmpty && acc.getLast? == some (lit "..")))) := by
        intro c e
        rw [e]
        cases acc with
        | nil => simp
        | cons y l => rw [List.getLast?_cons, List.getLastD_cons, List.getLastD_eq_getLast?]; simp
      walk_at "if"
      · intro h; walk_at "app"
        have h' := (hcond _ rfl).symm.trans h
        refine' ExTo.then (X1To.append (pre := []) (by walk_at "lk") ?q1 ?q2) ?_
        case q1 => walk_at "ev"
        case q2 => simp; have : acc.length ≤ wt acc := by unfold wt; (first | lia | omega)
                   (first | lia | omega)
        have : nstep (srootS x).1 acc comp = acc ++ [comp] := by unfold nstep; rw [if_neg (by simpa using hc), if_pos h']
        exact ExTo.nil ⟨by rw [e1, this]; simp, hfin, by walk_at "lk", by walk_at "lk", by walk_at "lk", by walk_at "lk", by walk_at "lk"⟩
      · intro h; walk_at "app"
        have h' := (hcond _ rfl).symm.trans h
        walk_at "if"
        · intro h2; walk_at "app"
          rcases List.eq_nil_or_concat acc with rfl | ⟨l, y, rfl⟩
          · simp at h2
          rw [List.concat_eq_append] at *
          rw [List.map_append, List.map_cons, List.map_nil]
          refine' ExTo.then (X1To.pop (pre := []) (by walk_at "lk")) ?_
          have : nstep (srootS x).1 (l ++ [y]) comp = l := by unfold nstep; rw [if_neg (by simpa using hc), if_neg (by rw [h']; decide), if_pos (by simp)]; simp
          exact ExTo.nil ⟨by rw [e1, this]; rfl, hfin, by walk_at "lk", by walk_at "lk", by walk_at "lk", by walk_at "lk", by walk_at "lk"⟩
        · intro h2; walk_at "app"
          have : nstep (srootS x).1 acc comp = acc := by unfold nstep; rw [if_neg (by simpa using hc), if_neg (by rw [h']; decide), if_neg (by simpa using h2)]
          exact ExTo.nil ⟨by rw [e1, this], hfin, by walk_at "lk", by walk_at "lk", by walk_at "lk", by walk_at "lk", by walk_at "lk"⟩
    · rintro ρ' μ' ⟨rfl, hw, l1, l2, l3, l4, l5⟩
      rw [List.length_map, List.take_length] at hw
      refine ⟨ρ', ?_, ?_, l1, l2, l3, l5⟩
      · rw [List.length_map, List.take_length]; rfl
      · unfold ncomps; (first | lia | omega)
    · rintro ρ' μ' ⟨ρ', e, hwc, l1, l2, l3, l5⟩
      cases e
      refine' ExTo.then (X1To.assign (EvTo.name l1)) ?_
      refine' ExTo.freeze (x := Str.ofString "comps") (by walk_at "lk") ?_
      have hwn : wt (ncomps x) ≤ (srootS x).2.length + 1 := hwc
      have hsum : ((ncomps x).map (·.length)).sum + (ncomps x).length * (lit "/").length ≤ x.length + 1 := by
        show _ + _ * 1 ≤ _
        unfold wt at hwn
        (first | lia | omega)
      have hj := jn_len (lit "/") (ncomps x)
      walk_at "st"
      refine' ExTo.ret (EvTo.or2 (c := !((srootS x).1 ++ jn (lit "/") (ncomps x)).isEmpty) (r := .str (normS x)) (EvTo.name (by walk_at "lk")) op_truths ?_ ?_) Back.same
      · intro h
        unfold normS
        rw [if_neg (by simpa using hne), if_neg (by simpa using h)]
      · intro h
        have : normS x = lit "." := by
          unfold normS
          rw [if_neg (by simpa using hne), if_pos (by simpa using h)]
        rw [this]
        exact EvTo.name (by walk_at "lk")
end
end
section
local macro_rules | `(tactic| walk_at "my_con") => `(tactic| first | with_reducible exact call_len)
section
variable {w : World} {d : Nat}
noncomputable def quoteS (x : List Nat) : List Nat := if x.isEmpty then lit "''" else if x.all safe then x else lit "'" ++ jn (lit "'\"'\"'") (spl 39 x) ++ lit "'"
theorem quoteS_len (x : List Nat) : (quoteS x).length ≤ 6 * x.length + 2 := by
  unfold quoteS
  split
  · show 2 ≤ _; (first | lia | omega)
  · split
    · (first | lia | omega)
    · have h1 := jn_spl_len 39 (lit "'\"'\"'") x
      have h2 : (lit "'\"'\"'").length = 5 := rfl
      have h3 : (lit "'").length = 1 := rfl
      rw [h2] at h1
      simp only [List.length_append, h3]
      (first | lia | omega)
theorem quote_ok {x : List Nat} (hl : 8 * x.length + 20 ≤ LIM) : CallsTo w (d + 1) (.ref 860) [.str x] (.str (quoteS x)) := by
  refine enter [Str.ofString "s"] (by rfl) (by kernel_rfl) (fun vs h => ?_) (by decide) (by decide) (fun h₀ L ex => ?_) rfl rfl rfl (by decide)
  · (obtain ⟨v, rfl⟩ := ln1 h; rfl)
  · walk_at "if"
    · intro h; walk_at "app"; walk_at "st"
      have e : quoteS x = lit "''" := by unfold quoteS; rw [if_pos (by simpa using h)]
      rw [e]; exact Back.same
    intro h; walk_at "app"
    have hne : x ≠ [] := by rintro rfl; simp at h
    have hne' : ¬ x.isEmpty = true := by simpa using h
    refine' ExTo.iff (TrTo.search (EvTo.glob g_find) (EvTo.name (by walk_at "lk")) hne) ?_ ?_
    · intro h2; walk_at "app"; walk_at "st"
      have e : quoteS x = x := by unfold quoteS; rw [if_neg hne', if_pos h2]
      rw [e]; exact Back.same
    · intro h2; walk_at "app"
      have h3 := jn_spl_len 39 (lit "'\"'\"'") x
      have h4 : (lit "'\"'\"'").length = 5 := rfl
      have h5 : (lit "'").length = 1 := rfl
      rw [h4] at h3
      have e : quoteS x = lit "'" ++ jn (lit "'\"'\"'") (spl 39 x) ++ lit "'" := by unfold quoteS; rw [if_neg hne', if_neg (by rw [h2]; decide)]
      rw [e]
      refine' ExTo.ret (EvTo.binop (EvTo.binop EvTo.cstr (EvTo.repl (c := 39) (EvTo.name (by walk_at "lk")) rfl (by decide) ?_) (op_adds ?_)) EvTo.cstr (op_adds ?_)) Back.same
      · show x.length + (x.length + 1) * 5 ≤ LIM; (first | lia | omega)
      · show 1 + (jn (lit "'\"'\"'") (spl 39 x)).length ≤ LIM; (first | lia | omega)
      · show (lit "'" ++ jn (lit "'\"'\"'") (spl 39 x)).length + 1 ≤ LIM; rw [List.length_append]; (first | lia | omega)
end
end
section
local macro_rules | `(tactic| walk_at "my_item") => `(tactic| (refine' EvTo.its ?q1 ?q2 ?q3 ?q4; (case q1 => walk_at "ev"); (case q2 => walk_at "ev"); (case q3 => exact Int.natCast_nonneg _); (case q4 => assumption)))
local macro_rules | `(tactic| walk_at "my_con") => `(tactic| first | with_reducible exact call_len)
section
variable {w : World} {d : Nat}
theorem sl_nat {α : Type} (x : List α) (i j : Nat) (h : i ≤ j) : sl x (some (i : Int)) (some (j : Int)) = (x.drop i).take (j - i) := by
  have c : ∀ k : Nat, clipAt x.length (k : Int) = min k x.length := fun k => by
    have := clipAt_cast x.length (k : Int)
    (first | lia | omega)
  show (x.drop (clipAt x.length (i : Int))).take (clipAt x.length (j : Int) - clipAt x.length (i : Int)) = _
  rw [c, c]
  rcases Nat.le_total i x.length with h1 | h1
  · rw [Nat.min_eq_left h1]
    rcases Nat.le_total j x.length with h2 | h2
    · rw [Nat.min_eq_left h2]
    · rw [Nat.min_eq_right h2, List.take_of_length_le (by simp), List.take_of_length_le (by simp; (first | lia | omega))]
  · rw [Nat.min_eq_right h1, List.drop_of_length_le (Nat.le_refl _), List.drop_of_length_le h1]; simp
noncomputable def dqS : List Nat → List Nat
  | [] => []
  | c :: r => (if c == 34 || (c == 92 && [[], [34], [92]].any (· == r.take 1)) then [92] else []) ++ c :: dqS r
theorem dqS_len : ∀ x, (dqS x).length ≤ 2 * x.length
  | [] => by simp [dqS]
  | c :: r => by
    have := dqS_len r
    unfold dqS
    split <;> simp <;> (first | lia | omega)
noncomputable def sqS (x : List Nat) : List Nat := lit "'" ++ jn (lit "'\\''") (spl 39 x) ++ lit "'"
noncomputable def spell2 (x : List Nat) : List Nat := lit "\"" ++ dqS x ++ lit "\""
noncomputable def spellS (x : List Nat) : Nat → List Nat
  | 0 => quoteS x
  | 1 => sqS x
  | 2 => spell2 x
  | _ => spell2 (x.take (x.length / 2)) ++ sqS (x.drop (x.length / 2))
theorem spell_two {x : List Nat} (hl : 8 * x.length + 20 ≤ LIM) : CallsTo w (d + 1) (.ref 874) [.str x, .int 2] (.str (spell2 x)) := by
  refine enter [Str.ofString "word", Str.ofString "style"] (by rfl) (by kernel_rfl) (fun vs h => ?_) (by decide) (by decide) (fun h₀ L ex => ?_) rfl rfl rfl (by decide)
  · (obtain ⟨v, u, rfl⟩ := ln2 h; rfl)
  · walk_at "if"
    · intro h; cases h
    intro _; walk_at "app"
    walk_at "if"
    · intro h; cases h
    intro _; walk_at "app"
    walk_at "if"
    · intro _; walk_at "app"
      walk_at "st"
      have hdq := dqS_len x
      refine' ExTo.cons (P1 := fun o => ∃ ρ', o = .next ρ' [] ∧ ρ'.lookup (Str.ofString "text") = some (.str (dqS x))) (X1To.forr (fun i ρ' μ' => μ' = [] ∧ ∃ t, ρ'.lookup (Str.ofString "text") = some (.str t) ∧ ρ'.lookup (Str.ofString "word") = some (.str x) ∧ t ++ dqS (x.drop i) = dqS x) (n := x.length) ?q1 ?q2 (by (first | lia | omega)) ⟨rfl, [], ?q3, ?q4, rfl⟩ ?_ ?_) ?_ (by rintro _ _ ⟨_, e, _⟩; cases e) (by rintro _ _ ⟨_, e, _⟩; cases e) (by rintro _ _ _ ⟨_, e, _⟩; cases e)
      case q1 => walk_at "ev"
      case q2 => walk_at "ev"
      case q3 => walk_at "lk"
      case q4 => walk_at "lk"
      · rintro h₀' i ρ' μ' hi ⟨rfl, t, ht, hw, he⟩
        have hx : x[(i : Int).toNat]? = some x[i] := by simp [hi]
        have hd : x.drop i = x[i] :: x.drop (i + 1) := List.drop_eq_getElem_cons hi
        have hsl : sl x (some ((i : Int) + 1)) (some ((i : Int) + 2)) = (x.drop (i + 1)).take 1 := by
          have := sl_nat x (i + 1) (i + 2) (by (first | lia | omega))
          rw [show ((i + 1 : Nat) : Int) = (i : Int) + 1 from rfl, show ((i + 2 : Nat) : Int) = (i : Int) + 2 from rfl] at this
          rw [this]; congr 1; (first | lia | omega)
        rw [hd] at he
        have hlen : t.length ≤ 2 * x.length := by have := congrArg List.length he; simp at this; (first | lia | omega)
        have q0 : (Str.ofString "").cps.toList = [] := rfl
        have q1 : (Str.ofString "\"").cps.toList = [34] := rfl
        have q2 : (Str.ofString "\\").cps.toList = [92] := rfl
        have l1 : (Str.ofString "\\").cps.toList.length = 1 := rfl
        walk_at "if"
        all_goals (intro h; walk_at "app")
        · walk_at "st"
          walk_at "st"
          refine ExTo.nil ⟨rfl, t ++ [92] ++ [x[i]], ?_, ?_, ?_⟩
          · walk_at "lk"
          · walk_at "lk"
          · rw [hsl, q0, q1, q2] at h
            have : dqS (x[i] :: x.drop (i + 1)) = [92] ++ x[i] :: dqS (x.drop (i + 1)) := by
              show (if _ then [92] else []) ++ _ = _
              rw [if_pos (by simpa using h)]
            rw [← he, this]; simp
        · walk_at "st"
          refine ExTo.nil ⟨rfl, t ++ [x[i]], ?_, ?_, ?_⟩
          · walk_at "lk"
          · walk_at "lk"
          · rw [hsl, q0, q1, q2] at h
            have : dqS (x[i] :: x.drop (i + 1)) = [] ++ x[i] :: dqS (x.drop (i + 1)) := by
              show (if _ then [92] else []) ++ _ = _
              rw [if_neg (by simpa using h)]
            rw [← he, this]; simp
      · rintro ρ' μ' ⟨rfl, t, ht, hw, he⟩
        rw [List.drop_of_length_le (Nat.le_refl _)] at he
        exact ⟨ρ', rfl, by rw [ht, ← he]; simp [dqS]⟩
      · rintro ρ' μ' ⟨ρ', e, h⟩
        cases e
        have h1 : (lit "\"").length = 1 := rfl
        refine' ExTo.ret (EvTo.binop (EvTo.binop EvTo.cstr (EvTo.name h) (op_adds ?_)) EvTo.cstr (op_adds ?_)) Back.same
        · show 1 + (dqS x).length ≤ LIM; (first | lia | omega)
        · show (lit "\"" ++ dqS x).length + 1 ≤ LIM; rw [List.length_append]; (first | lia | omega)
    · intro h; cases h
end
end
section
local macro_rules | `(tactic| walk_at "my_con") => `(tactic| first | with_reducible exact call_len | ((with_reducible refine' quote_ok ?h); (case h => assumption)))
section
variable {w : World} {d : Nat}
theorem spell_zero {x : List Nat} (hl : 8 * x.length + 20 ≤ LIM) : CallsTo w (d + 2) (.ref 874) [.str x, .int 0] (.str (quoteS x)) := by
  refine enter [Str.ofString "word", Str.ofString "style"] (by rfl) (by kernel_rfl) (fun vs h => ?_) (by decide) (by decide) (fun h₀ L ex => ?_) rfl rfl rfl (by decide)
  · (obtain ⟨v, u, rfl⟩ := ln2 h; rfl)
  · walk_at "if"
    · intro _; walk_at "app"; walk_at "st"; exact Back.same
    · intro h; cases h
theorem sqS_len (x : List Nat) : (sqS x).length ≤ 5 * x.length + 2 := by
  unfold sqS
  have h1 := jn_spl_len 39 (lit "'\\''") x
  have h2 : (lit "'\\''").length = 4 := rfl
  have h3 : (lit "'").length = 1 := rfl
  rw [h2] at h1
  simp only [List.length_append, h3]
  (first | lia | omega)
theorem spell2_len (x : List Nat) : (spell2 x).length ≤ 2 * x.length + 2 := by
  unfold spell2
  have h1 := dqS_len x
  have h3 : (lit "\"").length = 1 := rfl
  simp only [List.length_append, h3]
  (first | lia | omega)
theorem spell_one {x : List Nat} (hl : 8 * x.length + 20 ≤ LIM) : CallsTo w (d + 1) (.ref 874) [.str x, .int 1] (.str (sqS x)) := by
  refine enter [Str.ofString "word", Str.ofString "style"] (by rfl) (by kernel_rfl) (fun vs h => ?_) (by decide) (by decide) (fun h₀ L ex => ?_) rfl rfl rfl (by decide)
  · (obtain ⟨v, u, rfl⟩ := ln2 h; rfl)
  · walk_at "if"
    · intro h; cases h
    intro _; walk_at "app"
    walk_at "if"
    · intro _; walk_at "app"
      have h3 := jn_spl_len 39 (lit "'\\''") x
      have h4 : (lit "'\\''").length = 4 := rfl
      rw [h4] at h3
      refine' ExTo.ret (EvTo.binop (EvTo.binop EvTo.cstr (EvTo.repl (c := 39) (EvTo.name (by walk_at "lk")) rfl (by decide) ?_) (op_adds ?_)) EvTo.cstr (op_adds ?_)) Back.same
      · show x.length + (x.length + 1) * 4 ≤ LIM; (first | lia | omega)
      · show 1 + (jn (lit "'\\''") (spl 39 x)).length ≤ LIM; (first | lia | omega)
      · show (lit "'" ++ jn (lit "'\\''") (spl 39 x)).length + 1 ≤ LIM; rw [List.length_append]; have : (lit "'").length = 1 := rfl; (first | lia | omega)
    · intro h; cases h
theorem sl_to {α : Type} (x : List α) (j : Nat) : sl x none (some (j : Int)) = x.take j := by
  have c : clipAt x.length (j : Int) = min j x.length := by
    have := clipAt_cast x.length (j : Int)
    (first | lia | omega)
  show (x.drop 0).take (clipAt x.length (j : Int) - 0) = _
  rw [c, List.drop_zero, Nat.sub_zero]
  rcases Nat.le_total j x.length with h | h
  · rw [Nat.min_eq_left h]
  · rw [Nat.min_eq_right h, List.take_of_length_le (Nat.le_refl _), List.take_of_length_le h]
theorem sl_from {α : Type} (x : List α) (j : Nat) : sl x (some (j : Int)) none = x.drop j := by
  have c : clipAt x.length (j : Int) = min j x.length := by
    have := clipAt_cast x.length (j : Int)
    (first | lia | omega)
  show (x.drop (clipAt x.length (j : Int))).take (x.length - clipAt x.length (j : Int)) = _
  rw [c]
  rcases Nat.le_total j x.length with h | h
  · rw [Nat.min_eq_left h, List.take_of_length_le (by simp)]
  · rw [Nat.min_eq_right h, List.drop_of_length_le (Nat.le_refl _), List.drop_of_length_le h]; simp
theorem spell_three {x : List Nat} (hl : 8 * x.length + 40 ≤ LIM) : CallsTo w (d + 2) (.ref 874) [.str x, .int 3] (.str (spellS x 3)) := by
  refine enter [Str.ofString "word", Str.ofString "style"] (by rfl) (by kernel_rfl) (fun vs h => ?_) (by decide) (by decide) (fun h₀ L ex => ?_) rfl rfl rfl (by decide)
  · (obtain ⟨v, u, rfl⟩ := ln2 h; rfl)
  · walk_at "if"
    · intro h; cases h
    intro _; walk_at "app"
    walk_at "if"
    · intro h; cases h
    intro _; walk_at "app"
    walk_at "if"
    · intro h; cases h
    intro _; walk_at "app"
    walk_at "st"
    have e : ((x.length : Int)).fdiv 2 = ((x.length / 2 : Nat) : Int) := by
      rw [Int.fdiv_eq_ediv_of_nonneg _ (by decide)]; rfl
    rw [e]
    have h1 := spell2_len (x.take (x.length / 2))
    have h2 := sqS_len (x.drop (x.length / 2))
    have h3 : (x.take (x.length / 2)).length ≤ x.length := by rw [List.length_take]; (first | lia | omega)
    have h4 : (x.drop (x.length / 2)).length ≤ x.length := by rw [List.length_drop]; (first | lia | omega)
    refine' ExTo.ret (EvTo.binop (a := .str (spell2 (x.take (x.length / 2)))) (b := .str (sqS (x.drop (x.length / 2)))) (EvTo.call (EvTo.glob g_law_spell) (ArgsTo.cons (av := .str (x.take (x.length / 2))) ?_ (ArgsTo.cons EvTo.cint ArgsTo.nil)) (spell_two ?_) (cal_f (by rfl) (by rfl))) (EvTo.call (EvTo.glob g_law_spell) (ArgsTo.cons (av := .str (x.drop (x.length / 2))) ?_ (ArgsTo.cons EvTo.cint ArgsTo.nil)) (spell_one ?_) (cal_f (by rfl) (by rfl))) (op_adds ?_)) Back.same
    · rw [← sl_to]; walk_at "ev"
    · (first | lia | omega)
    · rw [← sl_from]; walk_at "ev"
    · (first | lia | omega)
    · (first | lia | omega)
theorem spell_ok {x : List Nat} {k : Nat} (hk : k < 4) (hl : 8 * x.length + 40 ≤ LIM) : CallsTo w (d + 2) (.ref 874) [.str x, .int k] (.str (spellS x k)) := by
  match k, hk with
  | 0, _ => exact spell_zero (by (first | lia | omega))
  | 1, _ => exact spell_one (by (first | lia | omega))
  | 2, _ => exact spell_two (by (first | lia | omega))
  | 3, _ => exact spell_three hl
theorem spellS_len (x : List Nat) (k : Nat) : (spellS x k).length ≤ 7 * x.length + 4 := by
  match k with
  | 0 => have := quoteS_len x; show (quoteS x).length ≤ _; (first | lia | omega)
  | 1 => have := sqS_len x; show (sqS x).length ≤ _; (first | lia | omega)
  | 2 => have := spell2_len x; show (spell2 x).length ≤ _; (first | lia | omega)
  | k + 3 =>
    have h1 := spell2_len (x.take (x.length / 2))
    have h2 := sqS_len (x.drop (x.length / 2))
    show (spell2 (x.take (x.length / 2)) ++ sqS (x.drop (x.length / 2))).length ≤ _
    rw [List.length_append]
    rw [List.length_take] at h1
    rw [List.length_drop] at h2
    (first | lia | omega)
end
end
section
local macro_rules | `(tactic| walk_at "my_con") => `(tactic| first | with_reducible exact call_len)
section
variable {w : World} {d : Nat}
theorem fmod_lt (x : Int) (n : Nat) (h : 0 < n) : 0 ≤ x.fmod n ∧ (x.fmod n).toNat < n := by
  have h1 := Int.fmod_nonneg_of_pos x (b := n) (by (first | lia | omega))
  have h2 := Int.fmod_lt_of_pos x (b := n) (by (first | lia | omega))
  (first | lia | omega)
theorem menu {l : List (List Nat)} {n : Nat} (h : n < l.length) : (l.map AV.str)[n]? = some (.str (l.getD n [])) := by
  rw [List.getElem?_map, List.getElem?_eq_getElem h, List.getD_eq_getElem?_getD, List.getElem?_eq_getElem h]; rfl
noncomputable def whites : List (List Nat) := [lit " ", lit "\t\n", lit "\r"]
noncomputable def whiteOf (x : Int) (k : Nat) : List Nat := whites.getD ((x.fdiv 1344 + k).fmod 3).toNat []
noncomputable def styleOf (x : Int) (k : Nat) : Nat := ((x.fdiv 336 + k).fmod 4).toNat
noncomputable def partOf (ws : List (List Nat)) (x : Int) (k : Nat) : List Nat := whiteOf x k ++ spellS (ws.getD (k + 1) []) (styleOf x k)
noncomputable def lineS (ws : List (List Nat)) (ns : List Int) : List Nat := quoteS (ws.getD 0 []) ++ (ns.mapIdx fun k x => partOf ws x k).flatten
theorem white_len (x : Int) (k : Nat) : (whiteOf x k).length ≤ 2 := by
  unfold whiteOf
  generalize ((x.fdiv 1344 + k).fmod 3).toNat = n
  match n with
  | 0 => decide
  | 1 => decide
  | 2 => decide
  | n + 3 => exact Nat.zero_le _
theorem style_lt (x : Int) (k : Nat) : styleOf x k < 4 := (fmod_lt _ 4 (by decide)).2
theorem part_len {ws : List (List Nat)} (hW : ∀ u ∈ ws, u.length ≤ 1000) (x : Int) (k : Nat) : (partOf ws x k).length ≤ 7010 := by
  unfold partOf
  have h1 := white_len x k
  have h2 := spellS_len (ws.getD (k + 1) []) (styleOf x k)
  have h3 : (ws.getD (k + 1) []).length ≤ 1000 := by
    rw [List.getD_eq_getElem?_getD]
    cases q : ws[k + 1]? with
    | none => exact Nat.zero_le _
    | some u => exact hW u (List.mem_of_getElem? q)
  rw [List.length_append]
  (first | lia | omega)
theorem lineS_take {ws : List (List Nat)} {ns : List Int} {i : Nat} {x : Int} (h : ns[i]? = some x) : lineS ws (ns.take (i + 1)) = lineS ws (ns.take i) ++ partOf ws x i := by
  unfold lineS
  have hlt : i < ns.length := by
    rcases Nat.lt_or_ge i ns.length with q | q
    · exact q
    · rw [List.getElem?_eq_none q] at h; cases h
  rw [List.take_succ, h]
  show quoteS _ ++ (List.mapIdx _ (ns.take i ++ [x])).flatten = _
  rw [List.mapIdx_append]
  simp [Nat.min_eq_left (Nat.le_of_lt hlt)]
theorem lineS_len {ws : List (List Nat)} (hW : ∀ u ∈ ws, u.length ≤ 1000) (hn : ∀ u, ws[0]? = some u → u.length ≤ 1000) (ns : List Int) : (lineS ws ns).length ≤ 6010 + ns.length * 7010 := by
  unfold lineS
  have h0 : (ws.getD 0 []).length ≤ 1000 := by
    rw [List.getD_eq_getElem?_getD]
    cases q : ws[0]? with
    | none => exact Nat.zero_le _
    | some u => exact hn u q
  have h1 := quoteS_len (ws.getD 0 [])
  have h2 : ∀ (ns : List Int) (f : Nat → Nat), ((ns.mapIdx fun k x => partOf ws x (f k)).flatten).length ≤ ns.length * 7010 := by
    intro ns
    induction ns with
    | nil => intro f; simp
    | cons a r ih =>
      intro f
      rw [List.mapIdx_cons, List.flatten_cons, List.length_append, List.length_cons]
      have := part_len hW a (f 0)
      have := ih fun k => f (k + 1)
      (first | lia | omega)
  have := h2 ns id
  rw [List.length_append]
  simp only [id] at this
  (first | lia | omega)
theorem line_ok {ws : List (List Nat)} {ns : List Int} {a : Addr} (hW : ∀ u ∈ ws, u.length ≤ 1000) (hn : ns.length ≤ 63) (hlen : ws.length = (ns.take 6).length + 1) :
    CallsToP w (d + 3) (Scr a ns) (.ref 881) [.list (ws.map AV.str), .val (.ref a)] (.str (lineS ws (ns.take 6))) := by
  have h6 : (ns.take 6).length ≤ 6 := by rw [List.length_take]; (first | lia | omega)
  have hLIM : LIM = 1048576 := rfl
  refine enterP [Str.ofString "words", Str.ofString "script"] (by rfl) (by kernel_rfl) (fun vs h => ?_) (by decide) (by decide) (fun h₀ L ex hS => ?_) rfl rfl rfl (by decide)
  · (obtain ⟨v, u, rfl⟩ := ln2 h; rfl)
  · have hw0 : 0 < ws.length := by (first | lia | omega)
    have hu0 : (ws.getD 0 []).length ≤ 1000 := by
      rw [List.getD_eq_getElem?_getD, List.getElem?_eq_getElem hw0]; exact hW _ (List.getElem_mem hw0)
    refine' ExTo.then (X1To.assign (av := .str (quoteS (ws.getD 0 []))) (EvTo.call (EvTo.glob g_law_spell) (ArgsTo.cons (av := .str (ws.getD 0 [])) (EvTo.itl (EvTo.name (by walk_at "lk")) EvTo.cint (by decide) (menu hw0)) (ArgsTo.cons EvTo.cint ArgsTo.nil)) (spell_zero ?_) (cal_f (by rfl) (by rfl)))) ?_
    · (first | lia | omega)
    have hsl : sl ns none (some 6) = ns.take 6 := sl_to ns 6
    refine' ExTo.cons (P1 := fun o => ∃ ρ', o = .next ρ' [] ∧ ρ'.lookup (Str.ofString "line") = some (.str (lineS ws (ns.take 6)))) (X1To.fore (xs' := [(Str.ofString "k", _), (Str.ofString "x", _)]) (xs := (ns.take 6).map AV.int) (fun i ρ' μ' => μ' = [] ∧ ρ'.lookup (Str.ofString "line") = some (.str (lineS ws ((ns.take 6).take i))) ∧ ρ'.lookup (Str.ofString "words") = some (.list (ws.map AV.str))) ?q1 ?q2 ⟨rfl, ?q3, ?q4⟩ ?q5 ?q6 rfl (by rfl)) ?_ (by rintro _ _ ⟨_, e, _⟩; cases e) (by rintro _ _ ⟨_, e, _⟩; cases e) (by rintro _ _ _ ⟨_, e, _⟩; cases e)
    case q1 => walk_at "ev"
    case q2 =>
      rw [← hsl]
      exact EvTo.slicesc (EvTo.name (by walk_at "lk")) hS (by (first | lia | omega)) (by walk_at "my_part") (by walk_at "my_part")
    case q3 => rw [put_same]; simp [lineS]
    case q4 => walk_at "lk"
    case q5 =>
      rintro h₀' i v ρ' μ' hv ⟨rfl, hline, hwords⟩
      rw [List.getElem?_map] at hv
      cases hx : (ns.take 6)[i]? with
      | none => rw [hx] at hv; cases hv
      | some x =>
      rw [hx] at hv
      cases hv
      have hi : i < (ns.take 6).length := by
        rcases Nat.lt_or_ge i (ns.take 6).length with q | q
        · exact q
        · rw [List.getElem?_eq_none q] at hx; cases hx
      have e := lineS_take (ws := ws) hx
      have hl1 := lineS_len hW (fun u q => hW u (List.mem_of_getElem? q)) ((ns.take 6).take i)
      have hl2 : ((ns.take 6).take i).length ≤ 6 := by rw [List.length_take]; (first | lia | omega)
      have hi1 : i + 1 < ws.length := by (first | lia | omega)
      have hu1 : (ws.getD (i + 1) []).length ≤ 1000 := by
        rw [List.getD_eq_getElem?_getD, List.getElem?_eq_getElem hi1]; exact hW _ (List.getElem_mem hi1)
      have m3 := fmod_lt (x.fdiv 1344 + i) 3 (by decide)
      have m4 := fmod_lt (x.fdiv 336 + i) 4 (by decide)
      show ExTo w _ (put (put ρ' (Str.ofString "k") (.int i)) (Str.ofString "x") (.int x)) [] _ _
      refine' ExTo.then (X1To.assign (av := .str (whiteOf x i)) (EvTo.itl (xs := whites.map AV.str) (k := (x.fdiv 1344 + i).fmod 3) ?r1 ?r2 m3.1 (menu m3.2))) ?_
      case r1 =>
        show EvTo _ _ _ _ _ (AV.list [.str (lit " "), .str (lit "\t\n"), .str (lit "\r")])
        walk_at "ev"
      case r2 => walk_at "ev"
      have hst : ((x.fdiv 336 + (i : Int)).fmod 4) = ((styleOf x i : Nat) : Int) := (Int.toNat_of_nonneg m4.1).symm
      have hp := part_len hW x i
      have hp' : (whiteOf x i).length + (spellS (ws.getD (i + 1) []) (styleOf x i)).length = (partOf ws x i).length := by unfold partOf; rw [List.length_append]
      refine' ExTo.then (X1To.aug (a := .str (lineS ws ((ns.take 6).take i))) (b := .str (partOf ws x i)) (by walk_at "lk") (EvTo.binop (a := .str (whiteOf x i)) (b := .str (spellS (ws.getD (i + 1) []) (styleOf x i))) (EvTo.name (by walk_at "lk")) (EvTo.call (EvTo.glob g_law_spell) (ArgsTo.cons (av := .str (ws.getD (i + 1) [])) (EvTo.itl (k := (i : Int) + 1) (EvTo.name (by walk_at "lk")) ?s1 (by (first | lia | omega)) (menu hi1)) (ArgsTo.cons (av := .int (styleOf x i)) ?s2 ArgsTo.nil)) (spell_ok (style_lt x i) ?s3) (cal_f (by rfl) (by rfl))) (op_adds ?s4)) (op_iadds ?s5)) ?_
      case s1 => walk_at "ev"
      case s2 => rw [← hst]; walk_at "ev"
      case s3 => (first | lia | omega)
      case s4 => (first | lia | omega)
      case s5 => (first | lia | omega)
      refine ExTo.nil ⟨rfl, ?_, ?_⟩
      · rw [put_same, e]
      · walk_at "lk"
    case q6 =>
      rintro ρ' μ' ⟨rfl, h1, h2⟩
      exact ⟨ρ', rfl, by rw [h1, List.length_map, List.take_of_length_le (Nat.le_refl _)]⟩
    rintro ρ' μ' ⟨ρ', e, h⟩
    cases e
    exact ExTo.ret (EvTo.name h) Back.same
end
end
section
section
variable {w : World} {C : Fc} {ρ : Rho} {μ : Mu}
noncomputable abbrev S (xs : List (List Nat)) : AV := .list (xs.map AV.str)
theorem op_addS {xs ys : List (List Nat)} (h : xs.length + ys.length ≤ LIM) : Op2 w C ρ μ (binaryOp .Add) (S xs) (S ys) (S (xs ++ ys)) := by
  have := op_addl (w := w) (C := C) (ρ := ρ) (μ := μ) (xs := xs.map AV.str) (ys := ys.map AV.str) (by simpa using h)
  rw [← List.map_append] at this
  exact this
theorem op_mulS {x : List Nat} {n : Nat} (h : n ≤ LIM) : Op2 w C ρ μ (binaryOp .Mult) (S [x]) (.int n) (S (List.replicate n x)) := by
  have := op_mull (w := w) (C := C) (ρ := ρ) (μ := μ) (x := .str x) (n := n) (by simpa using h) (by (first | lia | omega))
  rw [show (n : Int).toNat = n from rfl, ← List.map_replicate] at this
  exact this
theorem EvTo.sliceS {value : PySem.Expr} {lo hi : Option PySem.Expr} {q p : Pos} {xs : List (List Nat)} {i j : Option Int} (h : EvTo w C ρ μ value (S xs)) (hl : PartTo w C ρ μ lo i) (hh : PartTo w C ρ μ hi j) :
    EvTo w C ρ μ (.Subscript value (.Slice lo hi Option.none q) p) (S (sl xs i j)) := by
  have := EvTo.slicel (p := p) (q := q) h hl hh
  have e : sl (xs.map AV.str) i j = (sl xs i j).map AV.str := by unfold sl; simp
  rw [e] at this
  exact this
theorem call_lenl {d : Nat} {xs : List AV} : CallsTo w d (.builtin "len") [.list xs] (.int xs.length) :=
  CallsTo.leaf fun A s ex vs Q E hroom h1 B hex hvs hQ => by
    obtain ⟨u, rfl, e1⟩ := vrs1 hvs
    obtain ⟨a, vs, n, rfl, ea, kv, hl⟩ := vr_list e1
    have hlen := kv.length
    have hLIM : LIM = 1048576 := rfl
    refine PySem.Calls.call_len_list (items := vs.toArray) ⟨_, fz_get ea, rfl, n, rfl⟩ (by rw [List.size_toArray, hlen]; (first | lia | omega)) ?_
    rw [List.size_toArray, hlen]
    exact hQ _ s.heap _ (Grow.refl _) vr_int'
end
noncomputable def menuN : List (List Nat) := [lit "a", lit "", lit "b c", lit "it's", lit "\\\\\"", lit "...", lit "\\b"]
noncomputable def nameOf (x : Int) : List Nat := menuN.getD (x.fmod 7).toNat []
noncomputable def moreOf (x : Int) : List (List Nat) := if nameOf x != lit "" then [nameOf x] else []
noncomputable def keepN (x : Int) (k : Nat) : Nat := ((x.fdiv 7 + k).fmod 3).toNat
noncomputable def wayOf (x : Int) (k : Nat) : Nat := ((x.fdiv 21 + (k : Int).fdiv 2).fmod 4).toNat
noncomputable def detOf (x : Int) (k : Nat) : Nat := ((x.fdiv 84 + k).fmod 4).toNat
structure TS where
  root : List Nat
  ups : Nat
  names : List (List Nat)
  words : List (List Nat)
  places : List (List Nat)
noncomputable def overOf (kept : List (List Nat)) (way : Nat) : Nat := if kept == [] then way else 0
noncomputable def pieces0 (names kept more : List (List Nat)) (way : Nat) : List (List Nat) := if way < 2 then List.replicate (names.length - kept.length + overOf kept way) (lit "..") ++ more else kept ++ more
noncomputable def rootOf (root : List Nat) (way : Nat) : List Nat := if way < 2 then root else if way == 2 then lit "/" else lit "//"
noncomputable def frontOf (way k : Nat) : List Nat := if way < 2 then lit "" else if way == 2 && k % 2 == 1 then lit "///" else rootOf [] way
noncomputable def upsOf (ups : Nat) (kept : List (List Nat)) (way : Nat) : Nat := if way < 2 then ups + overOf kept way else ups
noncomputable def pieces1 (ps : List (List Nat)) (det : Nat) : List (List Nat) := if det == 1 then [lit "b c", lit ".."] ++ ps else if det == 2 then ps.take 1 ++ [lit "."] ++ ps.drop 1 else if det == 3 then ps ++ [lit "a", lit "", lit "..", lit ""] else ps
noncomputable def placeOf (root : List Nat) (ups : Nat) (names : List (List Nat)) : List Nat := if root == lit "" then (if (jn (lit "/") (List.replicate ups (lit "..") ++ names)).isEmpty then lit "." else jn (lit "/") (List.replicate ups (lit "..") ++ names)) else root ++ jn (lit "/") names
noncomputable def tstep (t : TS) (k : Nat) (x : Int) : TS :=
  let kept := t.names.take (keepN x k)
  let way := wayOf x k
  let names := kept ++ moreOf x
  let root := rootOf t.root way
  let ups := upsOf t.ups kept way
  { root, ups, names, words := t.words ++ [frontOf way k ++ jn (lit "/") (pieces1 (pieces0 t.names kept (moreOf x) way) (detOf x k))], places := t.places ++ [placeOf root ups names] }
noncomputable def t0 : TS := { root := lit "", ups := 0, names := [], words := [lit ""], places := [lit "."] }
noncomputable def tourAux : Nat → TS → List Int → TS
  | _, t, [] => t
  | k, t, x :: r => tourAux (k + 1) (tstep t k x) r
noncomputable def tourS (ns : List Int) : TS := tourAux 0 t0 ns
theorem tourAux_app : ∀ (a b : List Int) (k : Nat) (t : TS), tourAux k t (a ++ b) = tourAux (k + a.length) (tourAux k t a) b
  | [], b, k, t => rfl
  | x :: a, b, k, t => by
    show tourAux (k + 1) (tstep t k x) (a ++ b) = _
    rw [tourAux_app a b]
    show _ = tourAux (k + (a.length + 1)) (tourAux (k + 1) (tstep t k x) a) b
    congr 1
    (first | lia | omega)
theorem tourS_take {ns : List Int} {i : Nat} {x : Int} (h : ns[i]? = some x) : tourS (ns.take (i + 1)) = tstep (tourS (ns.take i)) i x := by
  have hlt : i < ns.length := by
    rcases Nat.lt_or_ge i ns.length with q | q
    · exact q
    · rw [List.getElem?_eq_none q] at h; cases h
  unfold tourS
  rw [List.take_succ, h]
  show tourAux 0 t0 (ns.take i ++ [x]) = _
  rw [tourAux_app, List.length_take, Nat.min_eq_left (Nat.le_of_lt hlt), Nat.zero_add]
  rfl
structure Small (t : TS) (k : Nat) : Prop where
  root : t.root.length ≤ 2
  ups : t.ups ≤ k
  names : t.names.length ≤ 3
  name : ∀ u ∈ t.names, u.length ≤ 4
  words : t.words.length = k + 1
  word : ∀ u ∈ t.words, u.length ≤ 200
  places : t.places.length = k + 1
  place : ∀ u ∈ t.places, u.length ≤ 200
theorem name_len (x : Int) : (nameOf x).length ≤ 4 := by
  unfold nameOf
  generalize (x.fmod 7).toNat = n
  match n with
  | 0 => decide
  | 1 => decide
  | 2 => decide
  | 3 => decide
  | 4 => decide
  | 5 => decide
  | 6 => decide
  | n + 7 => exact Nat.zero_le _
theorem more_len (x : Int) : (moreOf x).length ≤ 1 ∧ ∀ u ∈ moreOf x, u.length ≤ 4 := by
  unfold moreOf
  split
  · exact ⟨Nat.le_refl _, fun u hu => by rw [List.mem_singleton] at hu; subst hu; exact name_len x⟩
  · exact ⟨Nat.zero_le _, fun u hu => by cases hu⟩
theorem way_lt (x : Int) (k : Nat) : wayOf x k < 4 := (fmod_lt _ 4 (by decide)).2
theorem det_lt (x : Int) (k : Nat) : detOf x k < 4 := (fmod_lt _ 4 (by decide)).2
theorem keep_lt (x : Int) (k : Nat) : keepN x k < 3 := (fmod_lt _ 3 (by decide)).2
theorem jn_len5 {ps : List (List Nat)} (h : ∀ u ∈ ps, u.length ≤ 4) : (jn (lit "/") ps).length ≤ 5 * ps.length := by
  have h1 := jn_len (lit "/") ps
  have h2 : (lit "/").length = 1 := rfl
  have h3 : (ps.map (·.length)).sum ≤ 4 * ps.length := by
    clear h1
    induction ps with
    | nil => simp
    | cons a r ih =>
      have := h a (by simp)
      have := ih fun u hu => h u (by simp [hu])
      simp only [List.map_cons, List.sum_cons, List.length_cons]
      (first | lia | omega)
  rw [h2] at h1
  (first | lia | omega)

theorem over_le {kept : List (List Nat)} {way : Nat} : overOf kept way ≤ way := by unfold overOf; split <;> (first | lia | omega)
theorem pieces0_small {names kept more : List (List Nat)} {way : Nat} (hn : names.length ≤ 3) (hk : kept.length ≤ 3) (hm : more.length ≤ 1) (hk4 : ∀ u ∈ kept, u.length ≤ 4) (hm4 : ∀ u ∈ more, u.length ≤ 4) :
    (pieces0 names kept more way).length ≤ 5 ∧ ∀ u ∈ pieces0 names kept more way, u.length ≤ 4 := by
  unfold pieces0
  split
  · have := over_le (kept := kept) (way := way)
    refine ⟨by simp; (first | lia | omega), fun u hu => ?_⟩
    rcases List.mem_append.mp hu with h | h
    · rw [List.eq_of_mem_replicate h]; decide
    · exact hm4 u h
  · refine ⟨by simp; (first | lia | omega), fun u hu => ?_⟩
    rcases List.mem_append.mp hu with h | h
    · exact hk4 u h
    · exact hm4 u h
theorem pieces1_small {ps : List (List Nat)} {det : Nat} (hp : ps.length ≤ 5) (h4 : ∀ u ∈ ps, u.length ≤ 4) : (pieces1 ps det).length ≤ 9 ∧ ∀ u ∈ pieces1 ps det, u.length ≤ 4 := by
  unfold pieces1
  split
  · refine ⟨by simp; (first | lia | omega), fun u hu => ?_⟩
    simp only [List.cons_append, List.nil_append, List.mem_cons] at hu
    rcases hu with rfl | rfl | h
    · decide
    · decide
    · exact h4 u h
  · split
    · refine ⟨by simp; (first | lia | omega), fun u hu => ?_⟩
      simp only [List.mem_append, List.mem_singleton] at hu
      rcases hu with (h | rfl) | h
      · exact h4 u (List.mem_of_mem_take h)
      · decide
      · exact h4 u (List.mem_of_mem_drop h)
    · split
      · refine ⟨by simp; (first | lia | omega), fun u hu => ?_⟩
        rcases List.mem_append.mp hu with h | h
        · exact h4 u h
        · simp only [List.mem_cons, List.not_mem_nil, or_false] at h
          rcases h with rfl | rfl | rfl | rfl <;> decide
      · exact ⟨by (first | lia | omega), h4⟩
theorem root_len {r : List Nat} {way : Nat} (h : r.length ≤ 2) : (rootOf r way).length ≤ 2 := by
  unfold rootOf; split
  · exact h
  · split <;> decide
theorem front_len {way k : Nat} : (frontOf way k).length ≤ 3 := by
  unfold frontOf; split
  · decide
  · split
    · decide
    · exact Nat.le_succ_of_le (root_len (Nat.zero_le _))
theorem ups_le {u way k : Nat} {kept : List (List Nat)} (h : u ≤ k) : upsOf u kept way ≤ k + 1 := by
  have := over_le (kept := kept) (way := way)
  unfold upsOf; split <;> (first | lia | omega)
theorem place_len {r : List Nat} {u : Nat} {names : List (List Nat)} (hr : r.length ≤ 2) (hu : u ≤ 7) (hn : names.length ≤ 3) (h4 : ∀ u ∈ names, u.length ≤ 4) : (placeOf r u names).length ≤ 200 := by
  have a1 : ∀ v ∈ List.replicate u (lit "..") ++ names, v.length ≤ 4 := fun v hv => by
    rcases List.mem_append.mp hv with h | h
    · rw [List.eq_of_mem_replicate h]; decide
    · exact h4 v h
  have h1 := jn_len5 a1
  have h2 := jn_len5 h4
  rw [List.length_append, List.length_replicate] at h1
  unfold placeOf
  split
  · split
    · decide
    · (first | lia | omega)
  · rw [List.length_append]; (first | lia | omega)
theorem Small.step {t : TS} {k : Nat} (h : Small t k) (hk : k ≤ 6) (x : Int) : Small (tstep t k x) (k + 1) := by
  have hm := more_len x
  have hkl : (t.names.take (keepN x k)).length ≤ 2 := by have := keep_lt x k; rw [List.length_take]; (first | lia | omega)
  have hk4 : ∀ u ∈ t.names.take (keepN x k), u.length ≤ 4 := fun u hu => h.name u (List.mem_of_mem_take hu)
  have hn4 : ∀ u ∈ t.names.take (keepN x k) ++ moreOf x, u.length ≤ 4 := fun u hu => by
    rcases List.mem_append.mp hu with q | q
    · exact hk4 u q
    · exact hm.2 u q
  have p0 := pieces0_small (way := wayOf x k) h.names (Nat.le_succ_of_le hkl) hm.1 hk4 hm.2
  have p1 := pieces1_small (det := detOf x k) p0.1 p0.2
  have j1 := jn_len5 p1.2
  have hf := front_len (way := wayOf x k) (k := k)
  have hnl : (t.names.take (keepN x k) ++ moreOf x).length ≤ 3 := by rw [List.length_append]; (first | lia | omega)
  refine ⟨root_len h.root, ups_le h.ups, hnl, hn4, ?_, ?_, ?_, ?_⟩
  · show (t.words ++ [_]).length = _; rw [List.length_append, h.words]; rfl
  · intro u hu
    rcases List.mem_append.mp hu with q | q
    · exact h.word u q
    · rw [List.mem_singleton] at q; subst q
      show (frontOf _ _ ++ jn _ _).length ≤ _
      rw [List.length_append]; (first | lia | omega)
  · show (t.places ++ [_]).length = _; rw [List.length_append, h.places]; rfl
  · intro u hu
    rcases List.mem_append.mp hu with q | q
    · exact h.place u q
    · rw [List.mem_singleton] at q; subst q
      exact place_len (root_len h.root) (by have := ups_le (way := wayOf x k) (kept := t.names.take (keepN x k)) h.ups; show upsOf _ _ _ ≤ 7; (first | lia | omega)) hnl hn4
theorem small0 : Small t0 0 := ⟨by decide, Nat.le_refl _, by decide, (fun u hu => by cases hu), rfl, (fun u hu => by rw [show t0.words = [lit ""] from rfl, List.mem_singleton] at hu; subst hu; decide), rfl, (fun u hu => by rw [show t0.places = [lit "."] from rfl, List.mem_singleton] at hu; subst hu; decide)⟩
theorem small_take (ns : List Int) (h : ns.length ≤ 6) : ∀ i, i ≤ ns.length → Small (tourS (ns.take i)) i
  | 0, _ => small0
  | i + 1, hi => by
    have hx : ns[i]? = some ns[i] := List.getElem?_eq_getElem hi
    rw [tourS_take hx]
    exact (small_take ns h i (by (first | lia | omega))).step (by (first | lia | omega)) _
end
section
noncomputable def CallsToP0 (w : World) (d : Nat) (PP : Heap → Prop) (f : Value) (args : List AV) (r : AV) : Prop :=
  ∀ (A : Around) (s : Shared) (ex : List Addr) (vs : List Value) (Q E : Value → Shared → Prop), Room d A → Base w s.heap → PP s.heap → (∀ a ∈ ex, ∃ o, s.heap.get? a = some o) →
    VRs (fz ex s.heap) args vs → (∀ v h' tk, 1 ≤ tk → Grow s.heap h' → VR (fz ex h') r v → Q v { s with heap := h', toks := tk }) → wpAny (model PR w) A (call f vs) Q E s
theorem enterP0 {PP : Heap → Prop} {w : World} {d : Nat} {f : Addr} {name qual : Str} {params : Arguments} {body : List Stmt} {scope : Scope} {dV kV doc pm cdv ct oc : Value} {an od : Option Addr} {osl : Array (Option Value)} {args : List AV} {r : AV} (names : List Str)
    (ho : (KF w).lookup f = some ⟨oc, od, .func (fnOf name qual params body scope dV kV doc pm an cdv ct), osl⟩) (hcd : codeIn (KF w) cdv qual = true)
    (hbind : ∀ vs : List Value, vs.length = args.length → bindArgs (fnOf name qual params body scope dV kV doc pm an cdv ct) ⟨vs, []⟩ = pure (names.zip vs))
    (hnd : names.Nodup) (hloc : ∀ x ∈ names, scope.names.lookup x = some .local)
    (h : ∀ (h₀ : Heap) (L : Addr) (ex : List Addr), PP h₀ → ExTo w ⟨h₀, envOf qual scope L f cdv, ex, d⟩ (names.zip args) [] body (Back w ⟨h₀, envOf qual scope L f cdv, ex, d⟩ r))
    (hco : scope.isCoroutine = false) (hgen : scope.isGenerator = false) (hk : scope.kind = .function) (hcell : ∀ x ∈ scope.names, x.2 ≠ .cell) (hnn : 0 < names.length) (hna : 0 < args.length) : CallsToP0 w (d + 1) PP (.ref f) args r := by
  intro A s ex vs Q E hroom B hPP hex hvs hQ
  obtain ⟨_, _, _, mg, mb, T⟩ := B.top
  have hlen : vs.length = args.length := hvs.length
  refine wpAny_call ?_
  refine codeAny_call_def (fd := fnOf name qual params body scope dV kV doc pm an cdv ct) (body := body) (binds := names.zip vs) (by have := hroom.1.1; (first | lia | omega)) (B.kin _ _ ho) rfl T.nolimit (codeRec_of B.kin hcd) rfl (BindsTo.of_eq (hbind vs hlen)) hcell ?_ (fun h₁ hns hk₁ => ?_) hco hgen hk
  · intro x hx
    exact hloc x.1 (List.of_mem_zip hx).1
  · have hnew : s.heap.get? s.heap.objs.size = none := get?_size_none _
    have R : Rel w ⟨s.heap, envOf qual scope s.heap.objs.size f cdv, ex, d⟩ (names.zip args) [] h₁ := by
      refine ⟨⟨B, hk, rfl, rfl⟩, hk₁, ⟨_, hns, ?_⟩, fun p hp => by simp at hp, ?_, by simp [own], ?_, ?_⟩
      · have hz := zip_vrs (names := names) (hvs.more hnew hk₁)
        intro x av e
        obtain ⟨v, hv, k⟩ := hz x av e
        exact ⟨v, (zip_reverse_lookup hnd x).trans hv, k⟩
      · intro a ha
        simp only [own, List.map_nil, List.mem_cons, List.not_mem_nil, or_false] at ha
        rw [ha]; exact hnew
      · intro a ha q
        simp only [own, List.map_nil, List.mem_cons, List.not_mem_nil, or_false] at ha
        obtain ⟨o, e⟩ := hex a q
        rw [ha] at e
        have e' : s.heap.get? s.heap.objs.size = some o := e
        rw [hnew] at e'; cases e'
      · intro a ha
        simp only [exs, own, List.map_nil, List.cons_append, List.nil_append, List.mem_cons] at ha
        rcases ha with rfl | ha
        · obtain ⟨o, _, _, e, _⟩ := hns; exact ⟨o, e⟩
        · obtain ⟨o, e⟩ := hex a ha; exact ⟨o, hk₁ _ _ e⟩
    refine h s.heap s.heap.objs.size ex hPP (A.deeper (callEnv (fnOf name qual params body scope dV kV doc pm an cdv ct) s.heap.objs.size f)) _ _ _ ⟨⟨?_, ?_⟩, ?_, hroom.2.2⟩ ?_ R fun fl o h' tk h1' p x => ?_
    · have := hroom.1.1
      show A.depth + 1 + d + 120 < recursionLimit
      (first | lia | omega)
    · obtain ⟨env, l, hf, _⟩ := hroom.1.2
      exact ⟨_, _, Around.frames_deeper hf, hgen, hco, rfl, rfl⟩
    · have := hroom.2.1
      show A.units + 3 + 10 * d + 100 < cLine
      (first | lia | omega)
    · show 1 ≤ s.toks + (names.zip vs).length
      rw [List.length_zip, hlen]
      have := Nat.le_min.mpr ⟨hnn, hna⟩
      (first | lia | omega)
    · cases o with
      | next ρ' μ' =>
        obtain ⟨rfl, R'⟩ := x
        have e : r = .none := p
        subst e
        exact hQ _ h' tk h1' R'.keep vr_none'
      | brk ρ' μ' => exact p.elim
      | cont ρ' μ' => exact p.elim
      | ret av ρ' μ' =>
        obtain ⟨v, rfl, R', k⟩ := x
        exact hQ _ h' tk h1' R'.keep (p h' v R' k)

local macro_rules | `(tactic| walk_at "my_con") => `(tactic| first | with_reducible exact call_lenl | ((with_reducible refine' call_join ?h); (case h => walk_at "le")))
section
variable {w : World} {d : Nat}
theorem sum_le {ps : List (List Nat)} {n : Nat} (h : ∀ u ∈ ps, u.length ≤ 4) (hn : ps.length ≤ n) : (ps.map (·.length)).sum + ps.length * (lit "/").length ≤ 5 * n := by
  have h2 : (lit "/").length = 1 := rfl
  have h3 : (ps.map (·.length)).sum ≤ 4 * ps.length := by
    clear hn
    induction ps with
    | nil => simp
    | cons a r ih =>
      have := h a (by simp)
      have := ih fun u hu => h u (by simp [hu])
      simp only [List.map_cons, List.sum_cons, List.length_cons]
      (first | lia | omega)
  rw [h2]
  (first | lia | omega)
theorem tour_ok0 {ns : List Int} {a : Addr} (hn : ns.length ≤ 63) :
    CallsToP0 w (d + 1) (Scr a ns) (.ref 867) [.val (.ref a)] (.tup [S (tourS (ns.take 6)).words, S (tourS (ns.take 6)).places]) := by
  have h6 : (ns.take 6).length ≤ 6 := by rw [List.length_take]; (first | lia | omega)
  have hLIM : LIM = 1048576 := rfl
  refine enterP0 [Str.ofString "script"] (by rfl) (by kernel_rfl) (fun vs h => ?_) (by decide) (by decide) (fun h₀ L ex hS => ?_) rfl rfl rfl (by decide) (by decide) (Nat.zero_lt_one)
  · (obtain ⟨v, rfl⟩ := ln1 h; rfl)
  · walk_at "st"
    walk_at "st"
    walk_at "st"
    refine' ExTo.newl (avs := [lit ""].map AV.str) (ArgsTo.cons EvTo.cstr ArgsTo.nil) (by decide) fun aw => ?_
    refine' ExTo.newl (avs := [lit "."].map AV.str) (ArgsTo.cons EvTo.cstr ArgsTo.nil) (by decide) fun ap => ?_
    have hsl : sl ns none (some 6) = ns.take 6 := sl_to ns 6
    refine' ExTo.cons (P1 := fun o => ∃ ρ', o = .next ρ' [(ap, MO.list ((tourS (ns.take 6)).places.map AV.str)), (aw, MO.list ((tourS (ns.take 6)).words.map AV.str))] ∧ ρ'.lookup (Str.ofString "words") = some (.val (.ref aw)) ∧ ρ'.lookup (Str.ofString "places") = some (.val (.ref ap))) ?q0 ?_ (by rintro _ _ ⟨_, e, _⟩; cases e) (by rintro _ _ ⟨_, e, _⟩; cases e) (by rintro _ _ _ ⟨_, e, _⟩; cases e)
    case q0 =>
     refine' X1To.fore (xs' := [(Str.ofString "k", _), (Str.ofString "x", _)]) (xs := (ns.take 6).map AV.int) (fun i ρ' μ' => μ' = [(ap, MO.list ((tourS ((ns.take 6).take i)).places.map AV.str)), (aw, MO.list ((tourS ((ns.take 6).take i)).words.map AV.str))] ∧ ρ'.lookup (Str.ofString "words") = some (.val (.ref aw)) ∧ ρ'.lookup (Str.ofString "places") = some (.val (.ref ap)) ∧ ρ'.lookup (Str.ofString "root") = some (.str (tourS ((ns.take 6).take i)).root) ∧ ρ'.lookup (Str.ofString "ups") = some (.int (tourS ((ns.take 6).take i)).ups) ∧ ρ'.lookup (Str.ofString "names") = some (S (tourS ((ns.take 6).take i)).names)) ?q1 ?q2 ?qa ?q8 ?q9 ?qb ?qc
     case qb => rfl
     case qc => rfl
     case qa =>
       refine ⟨rfl, ?_, ?_, ?_, ?_, ?_⟩
       all_goals walk_at "lk"
     case q1 => walk_at "ev"
     case q2 =>
       rw [← hsl]
       exact EvTo.slicesc (EvTo.name (by walk_at "lk")) hS (by (first | lia | omega)) (by walk_at "my_part") (by walk_at "my_part")
     case q9 =>
       rintro ρ' μ' ⟨rfl, h1, h2, _⟩
       rw [List.length_map, List.take_of_length_le (Nat.le_refl _)]
       exact ⟨ρ', rfl, h1, h2⟩
     case q8 =>
       rintro h₀' i v ρ' μ' hv ⟨rfl, hwords, hplaces, hroot, hups, hnames⟩
       rw [List.getElem?_map] at hv
       cases hx : (ns.take 6)[i]? with
       | none => rw [hx] at hv; cases hv
       | some x =>
       rw [hx] at hv
       cases hv
       have hi : i < (ns.take 6).length := by
         rcases Nat.lt_or_ge i (ns.take 6).length with q | q
         · exact q
         · rw [List.getElem?_eq_none q] at hx; cases hx
       have e := tourS_take hx
       have hsm := small_take (ns.take 6) h6 i (by (first | lia | omega))
       generalize tourS ((ns.take 6).take i) = t at *
       show ExTo w _ (put (put ρ' (Str.ofString "k") (.int i)) (Str.ofString "x") (.int x)) _ _ _
       have hm := more_len x
       have hkl : (t.names.take (keepN x i)).length ≤ 2 := by have := keep_lt x i; rw [List.length_take]; (first | lia | omega)
       have hkn : (t.names.take (keepN x i)).length ≤ t.names.length := by rw [List.length_take]; (first | lia | omega)
       have hk4 : ∀ u ∈ t.names.take (keepN x i), u.length ≤ 4 := fun u hu => hsm.name u (List.mem_of_mem_take hu)
       have p0 := pieces0_small (way := wayOf x i) hsm.names (Nat.le_succ_of_le hkl) hm.1 hk4 hm.2
       have p1 := pieces1_small (det := detOf x i) p0.1 p0.2
       have m7 := fmod_lt x 7 (by decide)
       have m3 := fmod_lt (x.fdiv 7 + i) 3 (by decide)
       have m4 := fmod_lt (x.fdiv 21 + (i : Int).fdiv 2) 4 (by decide)
       have m4' := fmod_lt (x.fdiv 84 + i) 4 (by decide)
       have e3 : (x.fdiv 7 + (i : Int)).fmod 3 = ((keepN x i : Nat) : Int) := (Int.toNat_of_nonneg m3.1).symm
       have e4 : (x.fdiv 21 + (i : Int).fdiv 2).fmod 4 = ((wayOf x i : Nat) : Int) := (Int.toNat_of_nonneg m4.1).symm
       have e4' : (x.fdiv 84 + (i : Int)).fmod 4 = ((detOf x i : Nat) : Int) := (Int.toNat_of_nonneg m4'.1).symm
       have hst := hsm.step (by (first | lia | omega)) x
       -- name
       refine' ExTo.then (X1To.assign (av := .str (nameOf x)) (EvTo.itl (xs := menuN.map AV.str) (k := x.fmod 7) ?r1 ?r2 m7.1 (menu m7.2))) ?_
       case r1 =>
         show EvTo _ _ _ _ _ (AV.list [.str (lit "a"), .str (lit ""), .str (lit "b c"), .str (lit "it's"), .str (lit "\\\\\""), .str (lit "..."), .str (lit "\\b")])
         walk_at "ev"
       case r2 => walk_at "ev"
       -- more
       refine' ExTo.then (X1To.assign (av := S (moreOf x)) (EvTo.ifexp (c := nameOf x != lit "") ?r1 (fun h => ?r2) (fun h => ?r3))) ?_
       case r1 => walk_at "tr"
       case r2 =>
         have : moreOf x = [nameOf x] := by unfold moreOf; rw [if_pos h]
         rw [this]
         show EvTo _ _ _ _ _ (AV.list [.str (nameOf x)])
         walk_at "ev"
       case r3 =>
         have : moreOf x = [] := by unfold moreOf; rw [if_neg (by rw [h]; decide)]
         rw [this]
         show EvTo _ _ _ _ _ (AV.list [])
         walk_at "ev"
       -- kept
       refine' ExTo.then (X1To.assign (av := S (t.names.take (keepN x i))) ?r1) ?_
       case r1 =>
         rw [← sl_to, ← e3]
         exact EvTo.sliceS (EvTo.name (by walk_at "lk")) (by walk_at "my_part") (by walk_at "my_part")
       -- way
       refine' ExTo.then (X1To.assign (av := .int (wayOf x i)) ?r1) ?_
       case r1 => rw [← e4]; walk_at "ev"
       walk_at "st"
       -- the way's arms
       refine' ExTo.cons (P1 := fun o => ∃ ρ', o = .next ρ' [(ap, MO.list (t.places.map AV.str)), (aw, MO.list (t.words.map AV.str))] ∧ ρ'.lookup (Str.ofString "words") = some (.val (.ref aw)) ∧ ρ'.lookup (Str.ofString "places") = some (.val (.ref ap)) ∧
         ρ'.lookup (Str.ofString "root") = some (.str (rootOf t.root (wayOf x i))) ∧ ρ'.lookup (Str.ofString "front") = some (.str (frontOf (wayOf x i) i)) ∧ ρ'.lookup (Str.ofString "ups") = some (.int (upsOf t.ups (t.names.take (keepN x i)) (wayOf x i))) ∧ ρ'.lookup (Str.ofString "kept") = some (S (t.names.take (keepN x i))) ∧ ρ'.lookup (Str.ofString "more") = some (S (moreOf x)) ∧
         ρ'.lookup (Str.ofString "pieces") = some (S (pieces0 t.names (t.names.take (keepN x i)) (moreOf x) (wayOf x i))) ∧ ρ'.lookup (Str.ofString "x") = some (.int x) ∧ ρ'.lookup (Str.ofString "k") = some (.int i)) (X1To.if (c := decide ((wayOf x i : Int) < 2)) ?w1 (fun h => ?w2) (fun h => ?w3)) ?_ (by rintro _ _ ⟨_, e, _⟩; cases e) (by rintro _ _ ⟨_, e, _⟩; cases e) (by rintro _ _ _ ⟨_, e, _⟩; cases e)
       case w1 => walk_at "tr"
       case w2 =>
         have hw2 : wayOf x i < 2 := by have := of_decide_eq_true h; (first | lia | omega)
         have ho := over_le (kept := t.names.take (keepN x i)) (way := wayOf x i)
         have hnm := hsm.names
         refine' ExTo.then (X1To.assign (av := .int (overOf (t.names.take (keepN x i)) (wayOf x i))) (EvTo.ifexp (c := t.names.take (keepN x i) == []) ?r1 (fun h => ?r2) (fun h => ?r3))) ?_
         case r1 => exact TrTo.cmp (a := S (t.names.take (keepN x i))) (b := S []) (EvTo.name (by walk_at "lk")) (EvTo.list ArgsTo.nil) op_eql
         case r2 =>
           have : overOf (t.names.take (keepN x i)) (wayOf x i) = wayOf x i := by unfold overOf; rw [if_pos h]
           rw [this]; walk_at "ev"
         case r3 =>
           have : overOf (t.names.take (keepN x i)) (wayOf x i) = 0 := by unfold overOf; rw [if_neg (by rw [h]; decide)]
           rw [this]; exact EvTo.cint
         have ec : (((t.names.map AV.str).length : Nat) : Int) - ((((t.names.take (keepN x i)).map AV.str).length : Nat) : Int) + (overOf (t.names.take (keepN x i)) (wayOf x i) : Int) = ((t.names.length - (t.names.take (keepN x i)).length + overOf (t.names.take (keepN x i)) (wayOf x i) : Nat) : Int) := by
           rw [List.length_map, List.length_map]; (first | lia | omega)
         refine' ExTo.then (X1To.assign (av := S (List.replicate (t.names.length - (t.names.take (keepN x i)).length + overOf (t.names.take (keepN x i)) (wayOf x i)) (lit "..") ++ moreOf x)) ?s1) ?_
         case s1 =>
           refine' EvTo.binop ?s2 ?s3 (op_addS ?r3)
           case s2 =>
             refine' EvTo.binop (a := S [lit ".."]) (b := .int ((t.names.length - (t.names.take (keepN x i)).length + overOf (t.names.take (keepN x i)) (wayOf x i) : Nat) : Int)) ?s4 ?r1 (op_mulS ?r2)
             case s4 => exact EvTo.list (ArgsTo.cons EvTo.cstr ArgsTo.nil)
             case r1 => rw [← ec]; walk_at "ev"
             case r2 => (first | lia | omega)
           case s3 => walk_at "ev"
           case r3 => rw [List.length_replicate]; (first | lia | omega)
         walk_at "st"
         refine ExTo.nil ⟨_, rfl, ?_, ?_, ?_, ?_, ?_, ?_, ?_, ?_, ?_, ?_⟩
         · walk_at "lk"
         · walk_at "lk"
         · have : rootOf t.root (wayOf x i) = t.root := by unfold rootOf; rw [if_pos hw2]
           rw [this]; walk_at "lk"
         · have : frontOf (wayOf x i) i = lit "" := by unfold frontOf; rw [if_pos hw2]
           rw [this]; walk_at "lk"
         · have : upsOf t.ups (t.names.take (keepN x i)) (wayOf x i) = t.ups + overOf (t.names.take (keepN x i)) (wayOf x i) := by unfold upsOf; rw [if_pos hw2]
           rw [this]; walk_at "lk"
         · walk_at "lk"
         · walk_at "lk"
         · have : pieces0 t.names (t.names.take (keepN x i)) (moreOf x) (wayOf x i) = List.replicate (t.names.length - (t.names.take (keepN x i)).length + overOf (t.names.take (keepN x i)) (wayOf x i)) (lit "..") ++ moreOf x := by unfold pieces0; rw [if_pos hw2]
           rw [this]; walk_at "lk"
         · walk_at "lk"
         · walk_at "lk"
       case w3 =>
         have hw2 : ¬ wayOf x i < 2 := by have := of_decide_eq_false h; (first | lia | omega)
         refine' ExTo.then (X1To.assign (av := S (t.names.take (keepN x i) ++ moreOf x)) (EvTo.binop (EvTo.name (by walk_at "lk")) (EvTo.name (by walk_at "lk")) (op_addS ?r1))) ?_
         case r1 => (first | lia | omega)
         have er : rootOf t.root (wayOf x i) = if wayOf x i == 2 then lit "/" else lit "//" := by unfold rootOf; rw [if_neg hw2]
         have ew : ((wayOf x i : Int) == 2) = (wayOf x i == 2) := by
           by_cases q : wayOf x i = 2
           · rw [q]; rfl
           · rw [beq_eq_false_iff_ne.mpr q, beq_eq_false_iff_ne.mpr (by (first | lia | omega))]
         refine' ExTo.then (X1To.assign (av := .str (rootOf t.root (wayOf x i))) (EvTo.ifexp (c := (wayOf x i : Int) == 2) ?r1 (fun h => ?r2) (fun h => ?r3))) ?_
         case r1 => walk_at "tr"
         case r2 => rw [er, if_pos (by rw [← ew]; exact h)]; exact EvTo.cstr
         case r3 => rw [er, if_neg (by rw [← ew, h]; decide)]; exact EvTo.cstr
         have ek : (((i : Int).fmod 2) == 1) = (i % 2 == 1) := by
           have : (i : Int).fmod 2 = ((i % 2 : Nat) : Int) := by rw [Int.fmod_eq_emod_of_nonneg _ (by decide)]; rfl
           rw [this]
           by_cases q : i % 2 = 1
           · rw [q]; rfl
           · rw [beq_eq_false_iff_ne.mpr q, beq_eq_false_iff_ne.mpr (by (first | lia | omega))]
         have ef : frontOf (wayOf x i) i = if wayOf x i == 2 && i % 2 == 1 then lit "///" else rootOf t.root (wayOf x i) := by
           unfold frontOf rootOf; rw [if_neg hw2, if_neg hw2, if_neg hw2]
         refine' ExTo.then (X1To.assign (av := .str (frontOf (wayOf x i) i)) (EvTo.ifexp (c := ((wayOf x i : Int) == 2) && ((((i : Int).fmod 2) == 1) && true)) ?r1 (fun h => ?r2) (fun h => ?r3))) ?_
         case r1 => walk_at "tr"
         case r2 => rw [ew, ek, Bool.and_true] at h; rw [ef, if_pos h]; exact EvTo.cstr
         case r3 => rw [ew, ek, Bool.and_true] at h; rw [ef, if_neg (by rw [h]; decide)]; walk_at "ev"
         refine ExTo.nil ⟨_, rfl, ?_, ?_, ?_, ?_, ?_, ?_, ?_, ?_, ?_, ?_⟩
         · walk_at "lk"
         · walk_at "lk"
         · walk_at "lk"
         · walk_at "lk"
         · have : upsOf t.ups (t.names.take (keepN x i)) (wayOf x i) = t.ups := by unfold upsOf; rw [if_neg hw2]
           rw [this]; walk_at "lk"
         · walk_at "lk"
         · walk_at "lk"
         · have : pieces0 t.names (t.names.take (keepN x i)) (moreOf x) (wayOf x i) = t.names.take (keepN x i) ++ moreOf x := by unfold pieces0; rw [if_neg hw2]
           rw [this]; walk_at "lk"
         · walk_at "lk"
         · walk_at "lk"
       rintro _ _ ⟨ρ2, e2, hwords2, hplaces2, hroot2, hfront2, hups2, hkept2, hmore2, hpieces2, hx2, hk2⟩
       cases e2
       have hnl : (t.names.take (keepN x i) ++ moreOf x).length ≤ 3 := by rw [List.length_append]; (first | lia | omega)
       refine' ExTo.then (X1To.assign (av := S (t.names.take (keepN x i) ++ moreOf x)) (EvTo.binop (EvTo.name hkept2) (EvTo.name hmore2) (op_addS ?r1))) ?_
       case r1 => (first | lia | omega)
       refine' ExTo.then (X1To.assign (av := .int (detOf x i)) ?r1) ?_
       case r1 => rw [← e4']; walk_at "ev"
       have ed : ∀ n : Nat, ((detOf x i : Int) == (n : Int)) = (detOf x i == n) := fun n => by
         by_cases q : detOf x i = n
         · rw [q]; simp
         · rw [beq_eq_false_iff_ne.mpr q, beq_eq_false_iff_ne.mpr (by (first | lia | omega))]
       have ed1 : ((detOf x i : Int) == 1) = (detOf x i == 1) := ed 1
       have ed2 : ((detOf x i : Int) == 2) = (detOf x i == 2) := ed 2
       have ed3 : ((detOf x i : Int) == 3) = (detOf x i == 3) := ed 3
       generalize hps : pieces0 t.names (t.names.take (keepN x i)) (moreOf x) (wayOf x i) = ps at *
       have hpl := p0.1
       refine' ExTo.cons (P1 := fun o => ∃ ρ', o = .next ρ' [(ap, MO.list (t.places.map AV.str)), (aw, MO.list (t.words.map AV.str))] ∧ ρ'.lookup (Str.ofString "words") = some (.val (.ref aw)) ∧ ρ'.lookup (Str.ofString "places") = some (.val (.ref ap)) ∧
         ρ'.lookup (Str.ofString "root") = some (.str (rootOf t.root (wayOf x i))) ∧ ρ'.lookup (Str.ofString "front") = some (.str (frontOf (wayOf x i) i)) ∧ ρ'.lookup (Str.ofString "ups") = some (.int (upsOf t.ups (t.names.take (keepN x i)) (wayOf x i))) ∧ ρ'.lookup (Str.ofString "names") = some (S (t.names.take (keepN x i) ++ moreOf x)) ∧
         ρ'.lookup (Str.ofString "pieces") = some (S (pieces1 ps (detOf x i)))) (X1To.if (c := (detOf x i : Int) == 1) ?w1 (fun h => ?w2) (fun h => ?w3)) ?_ (by rintro _ _ ⟨_, e, _⟩; cases e) (by rintro _ _ ⟨_, e, _⟩; cases e) (by rintro _ _ _ ⟨_, e, _⟩; cases e)
       case w1 => walk_at "tr"
       case w2 =>
         rw [ed1] at h
         have : pieces1 ps (detOf x i) = [lit "b c", lit ".."] ++ ps := by unfold pieces1; rw [if_pos h]
         rw [this]
         refine' ExTo.then (X1To.assign (av := S ([lit "b c", lit ".."] ++ ps)) (EvTo.binop (a := S [lit "b c", lit ".."]) (EvTo.list (ArgsTo.cons EvTo.cstr (ArgsTo.cons EvTo.cstr ArgsTo.nil))) (EvTo.name (by walk_at "lk")) (op_addS ?r1))) ?_
         case r1 => show 2 + ps.length ≤ LIM; (first | lia | omega)
         refine ExTo.nil ⟨_, rfl, ?_, ?_, ?_, ?_, ?_, ?_, ?_⟩ <;> walk_at "lk"
       case w3 =>
         rw [ed1] at h
         refine' ExTo.iff (c := (detOf x i : Int) == 2) ?w1 (fun h' => ?w2) (fun h' => ?w3)
         case w1 => walk_at "tr"
         case w2 =>
           walk_at "app"
           rw [ed2] at h'
           have : pieces1 ps (detOf x i) = ps.take 1 ++ [lit "."] ++ ps.drop 1 := by unfold pieces1; rw [if_neg (by rw [h]; decide), if_pos h']
           rw [this]
           refine' ExTo.then (X1To.assign (av := S (ps.take 1 ++ [lit "."] ++ ps.drop 1)) (EvTo.binop (EvTo.binop (a := S (ps.take 1)) (b := S [lit "."]) ?r2 (EvTo.list (ArgsTo.cons EvTo.cstr ArgsTo.nil)) (op_addS ?r3)) (b := S (ps.drop 1)) ?r4 (op_addS ?r5))) ?_
           case r2 =>
             have := sl_to ps 1
             rw [← this]
             exact EvTo.sliceS (EvTo.name (by walk_at "lk")) PartTo.non (PartTo.som EvTo.cint)
           case r3 => show (ps.take 1).length + 1 ≤ LIM; rw [List.length_take]; (first | lia | omega)
           case r4 =>
             have := sl_from ps 1
             rw [← this]
             exact EvTo.sliceS (EvTo.name (by walk_at "lk")) (PartTo.som EvTo.cint) PartTo.non
           case r5 => simp; (first | lia | omega)
           refine ExTo.nil ⟨_, rfl, ?_, ?_, ?_, ?_, ?_, ?_, ?_⟩ <;> walk_at "lk"
         case w3 =>
           walk_at "app"
           rw [ed2] at h'
           refine' ExTo.iff (c := (detOf x i : Int) == 3) ?w1 (fun h'' => ?w2) (fun h'' => ?w3)
           case w1 => walk_at "tr"
           case w2 =>
             walk_at "app"
             rw [ed3] at h''
             have : pieces1 ps (detOf x i) = ps ++ [lit "a", lit "", lit "..", lit ""] := by unfold pieces1; rw [if_neg (by rw [h]; decide), if_neg (by rw [h']; decide), if_pos h'']
             rw [this]
             refine' ExTo.then (X1To.assign (av := S (ps ++ [lit "a", lit "", lit "..", lit ""])) (EvTo.binop (b := S [lit "a", lit "", lit "..", lit ""]) (EvTo.name (by walk_at "lk")) (EvTo.list (ArgsTo.cons EvTo.cstr (ArgsTo.cons EvTo.cstr (ArgsTo.cons EvTo.cstr (ArgsTo.cons EvTo.cstr ArgsTo.nil))))) (op_addS ?r1))) ?_
             case r1 => show ps.length + 4 ≤ LIM; (first | lia | omega)
             refine ExTo.nil ⟨_, rfl, ?_, ?_, ?_, ?_, ?_, ?_, ?_⟩ <;> walk_at "lk"
           case w3 =>
             walk_at "app"
             rw [ed3] at h''
             have : pieces1 ps (detOf x i) = ps := by unfold pieces1; rw [if_neg (by rw [h]; decide), if_neg (by rw [h']; decide), if_neg (by rw [h'']; decide)]
             rw [this]
             refine ExTo.nil ⟨_, rfl, ?_, ?_, ?_, ?_, ?_, ?_, ?_⟩ <;> walk_at "lk"
       rintro _ _ ⟨ρ3, e3', hwords3, hplaces3, hroot3, hfront3, hups3, hnames3, hpieces3⟩
       cases e3'
       have hj := jn_len5 p1.2
       have hsum := sum_le p1.2 p1.1
       have hf := front_len (way := wayOf x i) (k := i)
       have hwl := hsm.words
       have hpll := hsm.places
       -- words.append
       refine' ExTo.then (X1To.append (pre := [(ap, MO.list (t.places.map AV.str))]) (post := []) (a := aw) (av := .str (frontOf (wayOf x i) i ++ jn (lit "/") (pieces1 ps (detOf x i)))) hwords3 ?v1 ?r3) ?_
       case v1 =>
         refine' EvTo.binop (EvTo.name hfront3) ?v2 (op_adds ?r2)
         case v2 =>
           refine' EvTo.smeth (x := lit "/") ?s1 ?r4 ?s2 ?s3
           case s1 => exact EvTo.cstr
           case r4 => walk_at "my_gm"
           case s2 => exact ArgsTo.cons (EvTo.name hpieces3) ArgsTo.nil
           case s3 => refine call_join ?_; (first | lia | omega)
         case r2 => (first | lia | omega)
       case r3 => rw [List.length_map]; (first | lia | omega)
       have hu7 : upsOf t.ups (t.names.take (keepN x i)) (wayOf x i) ≤ 7 := by
         have := ups_le (way := wayOf x i) (kept := t.names.take (keepN x i)) hsm.ups; (first | lia | omega)
       have hn4 : ∀ u ∈ t.names.take (keepN x i) ++ moreOf x, u.length ≤ 4 := fun u hu => by
         rcases List.mem_append.mp hu with q | q
         · exact hk4 u q
         · exact hm.2 u q
       have hw' : (tstep t i x).words = t.words ++ [frontOf (wayOf x i) i ++ jn (lit "/") (pieces1 ps (detOf x i))] := by rw [← hps]; rfl
       have hp' : (tstep t i x).places = t.places ++ [placeOf (rootOf t.root (wayOf x i)) (upsOf t.ups (t.names.take (keepN x i)) (wayOf x i)) (t.names.take (keepN x i) ++ moreOf x)] := rfl
       have hrl := root_len (way := wayOf x i) hsm.root
       show ExTo w _ _ ([(ap, MO.list (t.places.map AV.str)), (aw, MO.list (t.words.map AV.str ++ [.str (frontOf (wayOf x i) i ++ jn (lit "/") (pieces1 ps (detOf x i)))]))]) _ _
       generalize hU : upsOf t.ups (t.names.take (keepN x i)) (wayOf x i) = U at *
       generalize hN : t.names.take (keepN x i) ++ moreOf x = N at *
       generalize hR : rootOf t.root (wayOf x i) = R at *
       have a1 : ∀ v ∈ List.replicate U (lit "..") ++ N, v.length ≤ 4 := fun v hv => by
         rcases List.mem_append.mp hv with h | h
         · rw [List.eq_of_mem_replicate h]; decide
         · exact hn4 v h
       have s1 := sum_le (n := 10) a1 (by rw [List.length_append, List.length_replicate]; (first | lia | omega))
       have s2 := sum_le (n := 3) hn4 hnl
       have j1 := jn_len5 a1
       have j2 := jn_len5 hn4
       rw [List.length_append, List.length_replicate] at j1
       have fin : ∀ {ρ4 : Rho} {pl : List Nat}, pl = placeOf R U N → ρ4.lookup (Str.ofString "words") = some (.val (.ref aw)) → ρ4.lookup (Str.ofString "places") = some (.val (.ref ap)) → ρ4.lookup (Str.ofString "root") = some (.str R) → ρ4.lookup (Str.ofString "ups") = some (.int U) → ρ4.lookup (Str.ofString "names") = some (S N) →
           ((([(ap, MO.list (t.places.map AV.str ++ [.str pl])), (aw, MO.list (t.words.map AV.str ++ [.str (frontOf (wayOf x i) i ++ jn (lit "/") (pieces1 ps (detOf x i)))]))] : Mu) = [(ap, MO.list ((tourS ((ns.take 6).take (i + 1))).places.map AV.str)), (aw, MO.list ((tourS ((ns.take 6).take (i + 1))).words.map AV.str))]) ∧ ρ4.lookup (Str.ofString "words") = some (.val (.ref aw)) ∧ ρ4.lookup (Str.ofString "places") = some (.val (.ref ap)) ∧
         ρ4.lookup (Str.ofString "root") = some (.str (tourS ((ns.take 6).take (i + 1))).root) ∧ ρ4.lookup (Str.ofString "ups") = some (.int (tourS ((ns.take 6).take (i + 1))).ups) ∧ ρ4.lookup (Str.ofString "names") = some (S (tourS ((ns.take 6).take (i + 1))).names)) := by
         rintro ρ4 pl rfl h1 h2 h3 h4 h5
         rw [e, hw', hp', List.map_append, List.map_append]
         exact ⟨rfl, h1, h2, by rw [h3, ← hR]; rfl, by rw [h4, ← hU]; rfl, by rw [h5, ← hN]; rfl⟩
       refine' ExTo.iff (c := R == lit "") ?w1 (fun h => ?w2) (fun h => ?w3)
       case w1 => exact TrTo.cmp (EvTo.name hroot3) EvTo.cstr op_eqs
       case w2 =>
         walk_at "app"
         refine' ExTo.then (X1To.append (pre := []) (a := ap) (av := .str (placeOf R U N)) hplaces3 ?v1 ?r3) ?_
         case r3 => rw [List.length_map]; (first | lia | omega)
         case v1 =>
          refine' EvTo.or2 (a := .str (jn (lit "/") (List.replicate U (lit "..") ++ N))) ?v2 op_truths (fun q => ?r7) (fun q => ?r8)
          case v2 =>
           refine' EvTo.smeth (x := lit "/") ?s1 ?r4 ?s2 ?s3
           case s1 => exact EvTo.cstr
           case r4 => walk_at "my_gm"
           case s2 =>
            refine' ArgsTo.cons (av := S (List.replicate U (lit "..") ++ N)) ?v3 ?s4
            case s4 => exact ArgsTo.nil
            case v3 =>
             refine' EvTo.binop ?v4 ?v5 (op_addS ?r6)
             case v4 =>
               refine' EvTo.binop (a := S [lit ".."]) ?v6 ?v7 (op_mulS ?r5)
               case v6 => exact EvTo.list (ArgsTo.cons EvTo.cstr ArgsTo.nil)
               case v7 => exact EvTo.name hups3
               case r5 => (first | lia | omega)
             case v5 => exact EvTo.name hnames3
             case r6 => rw [List.length_replicate]; (first | lia | omega)
           case s3 => refine call_join ?_; (first | lia | omega)
          case r7 => unfold placeOf; rw [if_pos h, if_neg (by simpa using q)]
          case r8 =>
           have : placeOf R U N = lit "." := by unfold placeOf; rw [if_pos h, if_pos (by simpa using q)]
           rw [this]; exact EvTo.cstr
         exact ExTo.nil (fin rfl hwords3 hplaces3 hroot3 hups3 hnames3)
       case w3 =>
         walk_at "app"
         have hpl' : placeOf R U N = R ++ jn (lit "/") N := by unfold placeOf; rw [if_neg (by rw [h]; decide)]
         refine' ExTo.then (X1To.append (pre := []) (a := ap) (av := .str (R ++ jn (lit "/") N)) hplaces3 ?v1 ?r3) ?_
         case v1 =>
           refine' EvTo.binop (EvTo.name hroot3) ?v2 (op_adds ?r2)
           case v2 =>
             refine' EvTo.smeth (x := lit "/") ?s1 ?r4 ?s2 ?s3
             case s1 => exact EvTo.cstr
             case r4 => walk_at "my_gm"
             case s2 => exact ArgsTo.cons (EvTo.name hnames3) ArgsTo.nil
             case s3 => refine call_join ?_; (first | lia | omega)
           case r2 => (first | lia | omega)
         case r3 => rw [List.length_map]; (first | lia | omega)
         exact ExTo.nil (fin hpl'.symm hwords3 hplaces3 hroot3 hups3 hnames3)
    rintro ρ' μ' ⟨ρ', e, hw, hp⟩
    cases e
    refine' ExTo.freeze hp (ExTo.freeze (x := Str.ofString "words") (by walk_at "lk") ?_)
    refine' ExTo.ret (av := .tup [S (tourS (ns.take 6)).words, S (tourS (ns.take 6)).places]) ?_ Back.same
    walk_at "ev"
theorem tour_ok {ns : List Int} {a : Addr} (hn : ns.length ≤ 63) :
    CallsToP w (d + 1) (Scr a ns) (.ref 867) [.val (.ref a)] (.tup [S (tourS (ns.take 6)).words, S (tourS (ns.take 6)).places]) :=
  fun A s ex vs Q E hr _ => tour_ok0 hn A s ex vs Q E hr
end
end
section
local macro_rules | `(tactic| walk_at "my_con") => `(tactic| first | with_reducible exact call_lenl | with_reducible exact call_len)
noncomputable def isAbs (u : List Nat) : Bool := sl u none (some 1) == lit "/"
noncomputable def rootsN (ws : List (List Nat)) : List Nat := (List.range ws.length).filter fun k => isAbs (ws.getD k [])
noncomputable def lastRoot (ws : List (List Nat)) : Nat := (rootsN ws).getLastD 0
noncomputable def restS (ws : List (List Nat)) : List (List Nat) := ws.drop (lastRoot ws)
noncomputable def slashed (u : List Nat) : List Nat := if u.getLast? == some 47 then u else u ++ lit "/"
noncomputable def glueS (rs : List (List Nat)) : List (List Nat) := (rs.filter fun u => u != lit "").map slashed
noncomputable def tailOf (u : List Nat) : List Nat := sl u (some (-1)) none
noncomputable def textS (ws : List (List Nat)) : List Nat :=
  if !([lit "", lit "/"].any (· == tailOf ((restS ws).getLastD []))) then sl (jn (lit "") (glueS (restS ws))) none (some (-1)) else jn (lit "") (glueS (restS ws))
theorem filterMap_if {α β : Type} (p : α → Bool) (f : α → β) : ∀ l : List α, l.filterMap (fun k => if p k then some (f k) else none) = (l.filter p).map f
  | [] => rfl
  | a :: l => by
    have ih := filterMap_if p f l
    rw [List.filterMap_cons, List.filter_cons]
    cases h : p a <;> simp [h, ih]
theorem range_getD (rs : List (List Nat)) : (List.range rs.length).map (fun k => rs.getD k []) = rs :=
  List.ext_getElem (by simp) fun i h1 h2 => by simp [List.getD_eq_getElem?_getD, h2]
theorem rootsN_lt {ws : List (List Nat)} {k : Nat} (h : k ∈ rootsN ws) : k < ws.length := List.mem_range.mp (List.mem_filter.mp h).1
theorem rootsN_sorted (ws : List (List Nat)) : (rootsN ws).Pairwise (· < ·) := List.Pairwise.sublist List.filter_sublist List.pairwise_lt_range
theorem last_max : ∀ {l : List Nat}, l.Pairwise (· < ·) → ∀ a ∈ l, a ≤ l.getLastD 0 := by
  intro l h a ha
  rcases List.eq_nil_or_concat l with rfl | ⟨r, z, rfl⟩
  · cases ha
  · rw [List.concat_eq_append] at h ha ⊢
    rw [List.getLastD_concat]
    rw [List.pairwise_append] at h
    rcases List.mem_append.mp ha with q | q
    · exact Nat.le_of_lt (h.2.2 a q z (by simp))
    · rw [List.mem_singleton] at q; (first | lia | omega)
theorem last_mem (ws : List (List Nat)) : lastRoot ws = 0 ∨ lastRoot ws ∈ rootsN ws := by
  unfold lastRoot
  rcases List.eq_nil_or_concat (rootsN ws) with h | ⟨r, z, h⟩
  · rw [h]; exact .inl rfl
  · rw [h, List.concat_eq_append, List.getLastD_concat]; exact .inr (by simp)
theorem lastRoot_lt {ws : List (List Nat)} (h : 0 < ws.length) : lastRoot ws < ws.length := by
  rcases last_mem ws with e | e
  · (first | lia | omega)
  · exact rootsN_lt e
section
variable {w : World} {C : Fc} {ρ : Rho} {μ : Mu} {d : Nat}
theorem EvTo.lastl {v i : PySem.Expr} {p : Pos} {xs : List AV} {x : AV} (hv : EvTo w C ρ μ v (.list xs)) (hi : EvTo w C ρ μ i (.int (-1))) (hx : xs.getLast? = some x)
    (hs : ∀ o j, subscripted i false o j = operate [o, j] (getItem o j) := by intro _ _; rfl) : EvTo w C ρ μ (.Subscript v i p) x :=
  fun A s Q E hr h1 R hQ => tok1 h1 (Subscript_ (hv A s _ _ hr h1 R fun v1 h' tk h1' g k => hi A _ _ _ hr h1' (R.grow g) fun v2 h2 tk2 h12 g2 k2 => by
    obtain ⟨a, vs, n, rfl, ea', kv', hl'⟩ := vr_list k
    have ea := g2 _ _ (fz_get ea')
    have kv := kv'.grow g2
    obtain ⟨t, rfl⟩ := vr_int k2
    have hl : Heap.IsList h2 a vs.toArray := ⟨_, ea, rfl, n, rfl⟩
    have hlen := kv.length
    have hne : xs ≠ [] := fun q => by subst q; simp at hx
    have hpos : 0 < xs.length := List.length_pos_iff.mpr hne
    have hx' : xs[xs.length - 1]? = some x := by rw [← List.getLast?_eq_getElem?]; exact hx
    obtain ⟨u, hu, ku⟩ := kv.get hx'
    refine tail_any (ops := [.ref a, .int (-1) t]) hl.typeIs slot_list_getitem.lookup (wpAny_getItem_list_neg hl (by decide) (by simp; (first | lia | omega)) (by decide) (x := u) ?_ ?_) (hs _ _)
    · have e : ((-1 : Int) + (vs.toArray.size : Nat)).toNat = xs.length - 1 := by rw [List.size_toArray, hlen]; (first | lia | omega)
      rw [e]; simpa using hu
    · exact fun h13 => hQ _ h2 tk2 h13 (g.trans g2) ku))
end
section
variable {w : World} {d : Nat}
theorem getD_len {ws : List (List Nat)} (hW : ∀ u ∈ ws, u.length ≤ 1000) (k : Nat) : (ws.getD k []).length ≤ 1000 := by
  rw [List.getD_eq_getElem?_getD]
  cases q : ws[k]? with
  | none => exact Nat.zero_le _
  | some u => exact hW u (List.mem_of_getElem? q)
theorem slashed_len (u : List Nat) : (slashed u).length ≤ u.length + 1 := by
  unfold slashed; split
  · (first | lia | omega)
  · rw [List.length_append]; exact Nat.le_refl _
theorem glue_sum {rs : List (List Nat)} (hW : ∀ u ∈ rs, u.length ≤ 1000) : ((glueS rs).map (·.length)).sum ≤ 1001 * rs.length ∧ (glueS rs).length ≤ rs.length := by
  unfold glueS
  refine ⟨?_, by rw [List.length_map]; exact List.length_filter_le _ _⟩
  induction rs with
  | nil => simp
  | cons a r ih =>
    have h1 := hW a (by simp)
    have h2 := slashed_len a
    have h3 := ih fun u hu => hW u (by simp [hu])
    rw [List.filter_cons]
    split
    · simp only [List.map_cons, List.sum_cons, List.length_cons]; (first | lia | omega)
    · simp only [List.length_cons]; (first | lia | omega)
theorem text_ok {ws : List (List Nat)} (hW : ∀ u ∈ ws, u.length ≤ 1000) (hn : ws.length ≤ 20) (hne : 0 < ws.length) : CallsTo w (d + 1) (.ref 886) [S ws] (.str (textS ws)) := by
  have hLIM : LIM = 1048576 := rfl
  refine enterC (Str.ofString "words") (by rfl) (by kernel_rfl) (fun v => by rfl) rfl (fun n => rfl) (fun h₀ L ex => ?_) rfl rfl rfl
  have hlt := lastRoot_lt hne
  have hr1 : restS ws ≠ [] := fun q => by
    have := congrArg List.length q
    rw [restS, List.length_drop] at this
    simp at this; (first | lia | omega)
  have hrW : ∀ u ∈ restS ws, u.length ≤ 1000 := fun u hu => hW u (List.mem_of_mem_drop hu)
  have hrl : (restS ws).length ≤ 20 := by rw [restS, List.length_drop]; (first | lia | omega)
  have eys : (List.range (rangeOf ws.length).length).filterMap (fun k => if isAbs (ws.getD k []) then some (AV.int k) else none) = ((rootsN ws).map fun (k : Nat) => (k : Int)).map AV.int := by
    rw [filterMap_if, show (rangeOf ws.length).length = ws.length by simp [rangeOf], List.map_map]; rfl
  refine' ExTo.then (X1To.assignc (xs := rangeOf ws.length) [(Str.ofString "words", L + 1)] (fun k => if isAbs (ws.getD k []) then some (AV.int k) else none) (ItTo.range ?q1 ?q2 ?q3) ?q4 ?q5 ?q6 (by rfl) (by decide) rfl (by decide) rfl) ?_
  case q1 => walk_at "ev"
  case q2 =>
    have : ws.length = (ws.map AV.str).length := by simp
    rw [this]; walk_at "ev"
  case q3 => (first | lia | omega)
  case q6 => simp [rangeOf]; (first | lia | omega)
  case q4 =>
    intro h₀' L' D i av acc hav
    rw [rangeOf_get] at hav
    split at hav
    · rename_i hi
      cases hav
      have e : (if isAbs (ws.getD i []) then some (AV.int i) else none).isSome = isAbs (ws.getD i []) := by cases isAbs (ws.getD i []) <;> rfl
      rw [e]
      show TrTo _ _ _ _ _ _
      exact TrTo.cmp (EvTo.slices (EvTo.itl (EvTo.cell (List.Mem.tail _ (List.Mem.head _))) (EvTo.name (by walk_at "lk")) (Int.natCast_nonneg _) (menu hi)) (by walk_at "my_part") (by walk_at "my_part")) EvTo.cstr op_eqs
    · cases hav
  case q5 =>
    intro h₀' L' D i av y acc hav hy
    rw [rangeOf_get] at hav
    split at hav
    · rename_i hi
      cases hav
      split at hy
      · cases hy; exact EvTo.name (by walk_at "lk")
      · cases hy
    · cases hav
  rw [eys]
  refine' ExTo.then (X1To.assign (av := S (restS ws)) ?q1) ?_
  case q1 =>
    have e : restS ws = sl ws (some (lastRoot ws : Int)) none := (sl_from ws (lastRoot ws)).symm
    rw [e]
    refine EvTo.sliceS (EvTo.cell (List.Mem.head _)) (PartTo.som (EvTo.call (avs := [.list ((0 :: (rootsN ws).map fun (k : Nat) => (k : Int)).map AV.int)]) (by walk_at "ev") (ArgsTo.cons (EvTo.binop (a := .list [.int 0]) (EvTo.list (ArgsTo.cons EvTo.cint ArgsTo.nil)) (EvTo.name (by walk_at "lk")) (op_addl ?_)) ArgsTo.nil) (call_max ?_ ?_) cal_b)) PartTo.non
    · have := List.length_filter_le (fun k => isAbs (ws.getD k [])) (List.range ws.length)
      rw [List.length_range] at this
      rw [List.length_map, List.length_map]
      show 1 + (rootsN ws).length ≤ LIM
      unfold rootsN
      (first | lia | omega)
    · rcases last_mem ws with h | h
      · rw [h]; exact List.mem_cons_self
      · exact List.mem_cons_of_mem _ (List.mem_map_of_mem h)
    · intro a ha
      rcases List.mem_cons.mp ha with rfl | ha
      · exact Int.natCast_nonneg _
      · obtain ⟨k, hk, rfl⟩ := List.mem_map.mp ha
        have := last_max (rootsN_sorted ws) k hk
        exact Int.ofNat_le.mpr this
  have hgs := glue_sum hrW
  refine' ExTo.then (X1To.assign (av := .str (jn (lit "") (glueS (restS ws)))) ?z0) ?_
  case z0 =>
   refine' EvTo.smeth (x := lit "") (avs := [S (glueS (restS ws))]) ?z1 ?z2 ?z3 ?z4
   case z1 => exact EvTo.cstr
   case z2 => walk_at "my_gm"
   case z4 => refine call_join ?_; show _ + _ * 0 ≤ _; (first | lia | omega)
   case z3 =>
    refine' ArgsTo.cons (av := S (glueS (restS ws))) ?z5 ?z6
    case z6 => exact ArgsTo.nil
    have e : (List.range ((restS ws).map AV.str).length).filterMap (fun k => if ((restS ws).getD k []) != lit "" then some (AV.str (slashed ((restS ws).getD k []))) else none) = (glueS (restS ws)).map AV.str := by
      rw [List.length_map]
      unfold glueS
      generalize restS ws = rs
      rw [filterMap_if (fun k => (rs.getD k []) != lit "") (fun k => AV.str (slashed (rs.getD k []))), List.map_map]
      conv => rhs; rw [← range_getD rs, List.filter_map, List.map_map]
      rfl
    show EvTo _ _ _ _ _ (AV.list ((glueS (restS ws)).map AV.str))
    rw [← e]
    refine EvTo.comp (xs := (restS ws).map AV.str) [] _ (ItTo.list (EvTo.name (by walk_at "lk"))) ?_ ?_ ?_ (by rfl) (by decide) rfl (by decide) rfl
    · intro h₀' L' D i av acc hav
      rw [List.getElem?_map] at hav
      cases hx : (restS ws)[i]? with
      | none => rw [hx] at hav; cases hav
      | some u =>
      rw [hx] at hav
      cases hav
      have eu : (restS ws).getD i [] = u := by rw [List.getD_eq_getElem?_getD, hx]; rfl
      rw [eu]
      have e : (if u != lit "" then some (AV.str (slashed u)) else none).isSome = (u != lit "") := by cases (u != lit "") <;> rfl
      rw [e]
      show TrTo _ _ _ _ _ _
      exact TrTo.cmp (EvTo.name (by walk_at "lk")) EvTo.cstr op_nes
    · intro h₀' L' D i av y acc hav hy
      rw [List.getElem?_map] at hav
      cases hx : (restS ws)[i]? with
      | none => rw [hx] at hav; cases hav
      | some u =>
      rw [hx] at hav
      cases hav
      have eu : (restS ws).getD i [] = u := by rw [List.getD_eq_getElem?_getD, hx]; rfl
      rw [eu] at hy
      split at hy
      · rename_i hu
        cases hy
        have hul := hrW u (List.mem_of_getElem? hx)
        obtain ⟨c, hc⟩ : ∃ c, u.getLast? = some c := by
          cases q : u.getLast? with
          | none => rw [List.getLast?_eq_none_iff] at q; subst q; exact absurd hu (by decide)
          | some c => exact ⟨c, rfl⟩
        have e1 : ([c] == lit "/") = (u.getLast? == some 47) := by rw [hc]; show ([c] == [47]) = (some c == some 47); by_cases q : c = 47 <;> simp [q]
        refine EvTo.ifexp (c := u.getLast? == some 47) ?_ (fun h => ?_) (fun h => ?_)
        · rw [← e1]; exact TrTo.cmp (EvTo.lasts (EvTo.name (by walk_at "lk")) (EvTo.neg EvTo.cint) hc) EvTo.cstr op_eqs
        · unfold slashed; rw [if_pos h]; exact EvTo.name (by walk_at "lk")
        · unfold slashed; rw [if_neg (by rw [h]; decide)]
          exact EvTo.binop (EvTo.name (by walk_at "lk")) EvTo.cstr (op_adds (by show u.length + 1 ≤ LIM; (first | lia | omega)))
      · cases hy
    · rw [List.length_map]; (first | lia | omega)
  have hlast : ((restS ws).map AV.str).getLast? = some (AV.str ((restS ws).getLastD [])) := by
    rcases List.eq_nil_or_concat (restS ws) with q | ⟨r, z, q⟩
    · exact absurd q hr1
    · rw [q]; simp
  refine' ExTo.ret (EvTo.ifexp (c := !([lit "", lit "/"].any (· == tailOf ((restS ws).getLastD [])))) ?q1 (fun h => ?q2) (fun h => ?q3)) Back.same
  case q1 => exact TrTo.cmp (EvTo.slices (EvTo.lastl (EvTo.name (by walk_at "lk")) (EvTo.neg EvTo.cint) hlast) (PartTo.som (EvTo.neg EvTo.cint)) PartTo.non) (EvTo.tup (ArgsTo.cons EvTo.cstr (ArgsTo.cons EvTo.cstr ArgsTo.nil))) (op_nintup (ys := [_, _]))
  case q2 => unfold textS; rw [if_pos h]; exact EvTo.slices (EvTo.name (by walk_at "lk")) PartTo.non (PartTo.som (EvTo.neg EvTo.cint))
  case q3 => unfold textS; rw [if_neg (by rw [h]; decide)]; exact EvTo.name (by walk_at "lk")
end
end
section
section
variable {w : World} {C : Fc} {ρ : Rho} {μ : Mu} {d : Nat}
theorem c840 : ClsOk w 840 := ⟨by kernel_rfl, by kernel_rfl, by kernel_rfl, by kernel_rfl⟩
theorem c705 : ClsOk w 705 := ⟨by kernel_rfl, by kernel_rfl, by kernel_rfl, by kernel_rfl⟩
theorem op_isnotT {T U : String} : Op2 w C ρ μ (compareOp .IsNot) (.val (.type T)) (.val (.type T)) (.bool false) :=
  fun A s Q E u v _ _ _ hu hv hQ => by
    obtain rfl := vr_val hu
    obtain rfl := vr_val hv
    exact wpAny_isNot_self rfl (hQ _ s.heap s.toks (Grow.refl _) vr_bool')
theorem call_typei {i : Int} : CallsTo w d (.type "type") [.int i] (.val (.type "int")) :=
  CallsTo.leaf fun A s ex vs Q E hroom h1 B hex hvs hQ => by
    obtain ⟨u, rfl, e1⟩ := vrs1 hvs
    obtain ⟨t, rfl⟩ := vr_int e1
    exact call_type_of (typeIs_int _ _ _) (by decide) (hQ _ s.heap s.toks (Grow.refl _) vr_val')
theorem call_inti {i : Int} : CallsTo w d (.type "int") [.int i] (.int i) :=
  CallsTo.leaf fun A s ex vs Q E hroom h1 B hex hvs hQ => by
    obtain ⟨u, rfl, e1⟩ := vrs1 hvs
    obtain ⟨t, rfl⟩ := vr_int e1
    exact call_int_int (hQ _ s.heap s.toks (Grow.refl _) vr_int')
theorem index_ok {i : Int} {x : List Nat} (h0 : 0 ≤ i) (h1 : i ≤ 100) : CallsTo w (d + 1) (.ref 171) [.int i, .str x] (.int i) := by
  refine enter [Str.ofString "n", Str.ofString "what"] (by rfl) (by kernel_rfl) (fun vs h => ?_) (by decide) (by decide) (fun h₀ L ex => ?_) rfl rfl rfl (by decide)
  · (obtain ⟨v, u, rfl⟩ := ln2 h; rfl)
  · refine' ExTo.iff (c := false && false) (TrTo.boolop (ATo.and ?q1 fun h => by cases h)) ?_ ?_
    case q1 => exact TrTo.cmp (EvTo.call (EvTo.blt n_type boot_type) (ArgsTo.cons (EvTo.name (by walk_at "lk")) ArgsTo.nil) call_typei cal_t) (EvTo.blt n_int boot_int) (op_isnotT (U := ""))
    · intro h; cases h
    intro _; walk_at "app"
    refine' ExTo.then (X1To.assign (EvTo.call (EvTo.blt n_int boot_int) (ArgsTo.cons (EvTo.name (by walk_at "lk")) ArgsTo.nil) call_inti cal_t)) ?_
    refine' ExTo.iff (c := decide (1099511627776 < i) || (decide (i < -1099511627776) || false)) (TrTo.boolop (ATo.or (TrTo.cmp (EvTo.name (by walk_at "lk")) EvTo.cint op_gti) fun _ => ATo.or (TrTo.cmp (EvTo.name (by walk_at "lk")) (EvTo.neg EvTo.cint) op_lti) fun _ => ATo.orNil)) ?_ ?_
    · intro h
      have : (decide (1099511627776 < i) || (decide (i < -1099511627776) || false)) = false := by simp; omega
      rw [this] at h; cases h
    intro _; walk_at "app"
    walk_at "st"
    exact Back.same
theorem lk_cons {k y : Str} {v : AV} {r : Rho} : List.lookup y ((k, v) :: r) = if y = k then some v else r.lookup y := by
  rw [List.lookup_cons]
  by_cases h : y = k
  · subst h; simp
  · rw [if_neg h, beq_eq_false_iff_ne.mpr h]
theorem BindTo.peekZ {fd : FuncData} {args : List AV} {kw : List (Str × Value)} {names : List Str} (h : ∀ vs : List Value, vs.length = args.length → ∀ S, W.peek (KF w) S (bindArgs fd ⟨vs, kw⟩) = some (names.zip vs)) (hnd : names.Nodup) (hloc : ∀ x ∈ names, fd.scope.names.lookup x = some .local) : BindTo w fd args kw (names.zip args) :=
  BindTo.peek fun vs hl => ⟨names.zip vs, h vs hl, fun F hvs x av e => by
    obtain ⟨v, hv, k⟩ := zip_vrs (names := names) hvs x av e
    exact ⟨v, (zip_reverse_lookup hnd x).trans hv, k⟩, fun y hy => hloc _ (List.of_mem_zip hy).1⟩
noncomputable def ioF (buf : List Nat) (pos : Int) : Rho := [(Str.ofString "_StringIO__pos", .int pos), (Str.ofString "_StringIO__buf", .str buf), (Str.ofString "_StringIO__newline", .str [10])]
theorem ioF_pos {buf : List Nat} {p p' : Int} (y : Str) : (ioF buf p').lookup y = if y = Str.ofString "_StringIO__pos" then some (.int p') else (ioF buf p).lookup y := by
  unfold ioF
  rw [lk_cons, lk_cons (v := .int p)]
  by_cases h : y = Str.ofString "_StringIO__pos"
  · rw [if_pos h, if_pos h]
  · rw [if_neg h, if_neg h, if_neg h]
theorem f705_pos : findIn (KF w) (.ref 705) (Str.ofString "_StringIO__pos") = some none := by kernel_rfl
theorem f705_buf : findIn (KF w) (.ref 705) (Str.ofString "_StringIO__buf") = some none := by kernel_rfl
theorem f705_nl : findIn (KF w) (.ref 705) (Str.ofString "_StringIO__newline") = some none := by kernel_rfl
theorem taker_of {K : Addr} {name : Str} (h : findIn (KF w) (.ref K) name = some none) : takerIn (KF w) K name = some none := by unfold takerIn; rw [h]; rfl
theorem m_check : MFn w 705 489 (Str.ofString "_StringIO__check") := ⟨by kernel_rfl, by kernel_rfl, by kernel_rfl⟩
theorem m_read : MFn w 705 651 (Str.ofString "read") := ⟨by kernel_rfl, by kernel_rfl, by kernel_rfl⟩
noncomputable def IoAt (y dy : Addr) (h : Heap) : Prop := h.get? y = some (instObj 705 dy)
theorem IoAt.grow {y dy : Addr} (h h' : Heap) (x : IoAt y dy h) (g : Grow h h') : IoAt y dy h' := g _ _ x
local macro_rules | `(tactic| walk_at "my_attr") => `(tactic| first
  | exact EvTo.attr (List.Mem.head _) (by rfl) (EvTo.name (by walk_at "lk")) (by assumption) c705 f705_pos
  | exact EvTo.attr (List.Mem.head _) (by rfl) (EvTo.name (by walk_at "lk")) (by assumption) c705 f705_buf
  | exact EvTo.attr (List.Mem.head _) (by rfl) (EvTo.name (by walk_at "lk")) (by assumption) c705 f705_nl)
theorem check_ok {y dy : Addr} {buf : List Nat} {pos : Int} : CallsM w (d + 1) (IoAt y dy) (.ref 489) [.val (.ref y)] [] [(dy, .dict (ioF buf pos))] .none [(dy, .dict (ioF buf pos))] := by
  refine enterM (ρ := [(Str.ofString "self", .val (.ref y))]) (by rfl) (by kernel_rfl) (BindTo.plain (names := [Str.ofString "self"]) (fun vs h => ?_) (by decide) (by decide)) rfl (fun h₀ L ex hI => ?_) rfl rfl rfl (by decide) IoAt.grow
  · (obtain ⟨v, rfl⟩ := ln1 h; rfl)
  · have hI' : h₀.get? y = some (instObj 705 dy) := hI
    refine' ExTo.iff (c := false) (TrTo.cmp (a := .str buf) ?q1 EvTo.cnone (op_isn (a := .str buf))) (fun h => by cases h) (fun _ => ExTo.nil ⟨rfl, rfl⟩)
    case q1 => walk_at "my_attr"
theorem read_some {y dy : Addr} {buf : List Nat} {pos : Nat} {c : Nat} (hc : buf[pos]? = some c) (hl : buf.length ≤ LIM) : CallsM w (d + 2) (IoAt y dy) (.ref 651) [.val (.ref y), .int 1] [] [(dy, .dict (ioF buf pos))] (.str [c]) [(dy, .dict (ioF buf (pos + 1 : Nat)))] := by
  have hlt : pos < buf.length := by
    rcases Nat.lt_or_ge pos buf.length with q | q
    · exact q
    · rw [List.getElem?_eq_none q] at hc; cases hc
  refine enterM (ρ := [(Str.ofString "self", .val (.ref y)), (Str.ofString "size", .int 1)]) (by rfl) (by kernel_rfl) (BindTo.peekZ (names := [Str.ofString "self", Str.ofString "size"]) (fun vs h S => ?_) (by decide) (by decide)) rfl (fun h₀ L ex hI => ?_) rfl rfl rfl (by decide) IoAt.grow
  · (obtain ⟨v, u, rfl⟩ := ln2 h; rfl)
  · have hI' : h₀.get? y = some (instObj 705 dy) := hI
    refine' ExTo.iff (c := false) (TrTo.cmp (a := .int 1) (EvTo.name (by walk_at "lk")) EvTo.cnone (op_isn (a := .int 1))) (fun h => by cases h) (fun _ => ?_)
    walk_at "app"
    refine' ExTo.then (X1To.assign (EvTo.call (EvTo.glob g_index) (ArgsTo.cons (EvTo.name (by walk_at "lk")) (ArgsTo.cons EvTo.cstr ArgsTo.nil)) (index_ok (by decide) (by decide)) (cal_f (by rfl) (by rfl)))) ?_
    refine' ExTo.then (X1To.exprM (MvTo.meth0 (pre := []) (List.Mem.head _) (by rfl) (EvTo.name (by walk_at "lk")) hI' c705 m_check check_ok hI IoAt.grow rfl)) ?_
    refine' ExTo.then (X1To.assign (av := .int pos) ?q1) ?_
    case q1 => walk_at "my_attr"
    refine' ExTo.then (X1To.assign (av := .int buf.length) (EvTo.call (EvTo.blt n_len boot_len) (ArgsTo.cons ?q1 ArgsTo.nil) call_len cal_b)) ?_
    case q1 => walk_at "my_attr"
    refine' ExTo.iff (c := decide ((buf.length : Int) ≤ pos)) (TrTo.cmp (EvTo.name (by walk_at "lk")) (EvTo.name (by walk_at "lk")) op_gei) (fun h => ?_) (fun _ => ?_)
    · have := of_decide_eq_true h; omega
    walk_at "app"
    refine' ExTo.cons (P1 := fun o => ∃ ρ', o = .next ρ' [(dy, .dict (ioF buf pos))] ∧ ρ'.lookup (Str.ofString "stop") = some (.int (pos + 1 : Nat)) ∧ ρ'.lookup (Str.ofString "start") = some (.int pos) ∧ ρ'.lookup (Str.ofString "self") = some (.val (.ref y)))
      (X1To.if (c := decide ((0 : Int) ≤ 1) && (decide ((pos : Int) + 1 < buf.length) && true)) (TrTo.boolop (ATo.and (TrTo.cmp (EvTo.name (by walk_at "lk")) EvTo.cint op_gei) fun _ => ATo.and (TrTo.cmp (EvTo.binop (EvTo.name (by walk_at "lk")) (EvTo.name (by walk_at "lk")) op_addi) (EvTo.name (by walk_at "lk")) op_lti) fun _ => ATo.andNil)) (fun h => ?w2) (fun h => ?w3)) ?_ (by rintro _ _ ⟨_, e, _⟩; cases e) (by rintro _ _ ⟨_, e, _⟩; cases e) (by rintro _ _ _ ⟨_, e, _⟩; cases e)
    case w2 =>
      refine' ExTo.then (X1To.assign (av := .int (pos + 1 : Nat)) ?q1) ?_
      case q1 => exact EvTo.binop (EvTo.name (by walk_at "lk")) (EvTo.name (by walk_at "lk")) op_addi
      exact ExTo.nil ⟨_, rfl, by walk_at "lk", by walk_at "lk", by walk_at "lk"⟩
    case w3 =>
      have e : buf.length = pos + 1 := by
        simp at h; omega
      refine ExTo.nil ⟨_, rfl, ?_, by walk_at "lk", by walk_at "lk"⟩
      rw [← e]; walk_at "lk"
    rintro _ _ ⟨ρ', e, h1, h2, h3⟩
    cases e
    refine' ExTo.then (X1To.setattr (pre := []) ioF_pos (EvTo.name h1) (EvTo.name h3) hI' c705 (taker_of f705_pos) (Nat.le_of_ble_eq_true rfl)) ?_
    refine' ExTo.ret (EvTo.slices (x := buf) (i := some pos) (j := some (pos + 1 : Nat)) ?q1 (PartTo.som (EvTo.name h2)) (PartTo.som (EvTo.name h1))) ?_
    case q1 => exact EvTo.attr (List.Mem.head _) (by rfl) (EvTo.name h3) hI' c705 f705_buf
    have e : sl buf (some (pos : Int)) (some ((pos + 1 : Nat) : Int)) = [c] := by
      rw [sl_nat _ _ _ (Nat.le_succ _), List.drop_eq_getElem_cons hlt]
      rw [List.getElem?_eq_getElem hlt] at hc
      cases hc
      rw [show pos + 1 - pos = 1 by omega, List.take_succ_cons, List.take_zero]
    rw [e]
    exact BackM.same
theorem read_none {y dy : Addr} {buf : List Nat} {pos : Nat} (hc : buf.length ≤ pos) (hl : buf.length ≤ LIM) : CallsM w (d + 2) (IoAt y dy) (.ref 651) [.val (.ref y), .int 1] [] [(dy, .dict (ioF buf pos))] (.str []) [(dy, .dict (ioF buf pos))] := by
  refine enterM (ρ := [(Str.ofString "self", .val (.ref y)), (Str.ofString "size", .int 1)]) (by rfl) (by kernel_rfl) (BindTo.peekZ (names := [Str.ofString "self", Str.ofString "size"]) (fun vs h S => ?_) (by decide) (by decide)) rfl (fun h₀ L ex hI => ?_) rfl rfl rfl (by decide) IoAt.grow
  · (obtain ⟨v, u, rfl⟩ := ln2 h; rfl)
  · have hI' : h₀.get? y = some (instObj 705 dy) := hI
    refine' ExTo.iff (c := false) (TrTo.cmp (a := .int 1) (EvTo.name (by walk_at "lk")) EvTo.cnone (op_isn (a := .int 1))) (fun h => by cases h) (fun _ => ?_)
    walk_at "app"
    refine' ExTo.then (X1To.assign (EvTo.call (EvTo.glob g_index) (ArgsTo.cons (EvTo.name (by walk_at "lk")) (ArgsTo.cons EvTo.cstr ArgsTo.nil)) (index_ok (by decide) (by decide)) (cal_f (by rfl) (by rfl)))) ?_
    refine' ExTo.then (X1To.exprM (MvTo.meth0 (pre := []) (List.Mem.head _) (by rfl) (EvTo.name (by walk_at "lk")) hI' c705 m_check check_ok hI IoAt.grow rfl)) ?_
    refine' ExTo.then (X1To.assign (av := .int pos) ?q1) ?_
    case q1 => walk_at "my_attr"
    refine' ExTo.then (X1To.assign (av := .int buf.length) (EvTo.call (EvTo.blt n_len boot_len) (ArgsTo.cons ?q1 ArgsTo.nil) call_len cal_b)) ?_
    case q1 => walk_at "my_attr"
    refine' ExTo.iff (c := decide ((buf.length : Int) ≤ pos)) (TrTo.cmp (EvTo.name (by walk_at "lk")) (EvTo.name (by walk_at "lk")) op_gei) (fun _ => ?_) (fun h => ?_)
    · walk_at "app"
      refine' ExTo.ret EvTo.cstr ?_
      exact BackM.same
    · have := of_decide_eq_false h; omega
end
end
section
section
variable {w : World} {d : Nat}
structure LS where
  st : Option Nat
  tok : List Nat
  q : Bool
  esc : Nat
  ln : Int
noncomputable def WS : List Nat := [32, 9, 13, 10]
noncomputable def lnl (c : Nat) (n : Int) : Int := if c == 10 then n + 1 else n
noncomputable def lstep (s : LS) (c : Nat) : LS × Bool :=
  match s.st with
  | none => ({ s with tok := [], ln := lnl c s.ln }, true)
  | some k =>
    if k == 32 then
      if decide (c ∈ WS) then ({ s with ln := lnl c s.ln }, !s.tok.isEmpty || s.q)
      else if c == 92 then ({ s with esc := 97, st := some 92, ln := lnl c s.ln }, false)
      else if decide (c ∈ [39, 34]) then ({ s with st := some c, ln := lnl c s.ln }, false)
      else ({ s with tok := [c], st := some 97, ln := lnl c s.ln }, false)
    else if decide (k ∈ [39, 34]) then
      if c == k then ({ s with q := true, st := some 97, ln := lnl c s.ln }, false)
      else if c == 92 && k == 34 then ({ s with q := true, esc := k, st := some 92, ln := lnl c s.ln }, false)
      else ({ s with q := true, tok := s.tok ++ [c], ln := lnl c s.ln }, false)
    else if k == 92 then
      ({ s with tok := (if decide (s.esc ∈ [39, 34]) && (c != 92 && c != s.esc) then s.tok ++ [92] else s.tok) ++ [c], st := some s.esc, ln := lnl c s.ln }, false)
    else
      if decide (c ∈ WS) then ({ s with st := some 32, ln := lnl c s.ln }, !s.tok.isEmpty || s.q)
      else if decide (c ∈ [39, 34]) then ({ s with st := some c, ln := lnl c s.ln }, false)
      else if c == 92 then ({ s with esc := 97, st := some 92, ln := lnl c s.ln }, false)
      else ({ s with tok := s.tok ++ [c], ln := lnl c s.ln }, false)
noncomputable def lend (s : LS) : Option LS :=
  match s.st with
  | none => some { s with tok := [] }
  | some k => if k == 32 || k == 97 then some { s with st := none } else none
noncomputable def rd (s : LS) : List Nat → Option (LS × List Nat)
  | [] => (lend s).map fun s' => (s', [])
  | c :: r => if (lstep s c).2 then some ((lstep s c).1, r) else rd (lstep s c).1 r
noncomputable def stAV : Option Nat → AV
  | none => .none
  | some k => .str [k]
noncomputable def WC : List Nat := lit "abcdfeghijklmnopqrstuvwxyzABCDEFGHIJKLMNOPQRSTUVWXYZ0123456789_" ++ lit "ßàáâãäåæçèéêëìíîïðñòóôõöøùúûüýþÿÀÁÂÃÄÅÆÇÈÉÊËÌÍÎÏÐÑÒÓÔÕÖØÙÚÛÜÝÞ"
noncomputable def lexR (y pb fk : Addr) : Rho := [(Str.ofString "instream", .val (.ref y)), (Str.ofString "posix", .bool true), (Str.ofString "eof", .none), (Str.ofString "commenters", .str []), (Str.ofString "wordchars", .str WC), (Str.ofString "whitespace", .str (lit " \t\r\n")),
  (Str.ofString "whitespace_split", .bool true), (Str.ofString "quotes", .str (lit "'\"")), (Str.ofString "escape", .str (lit "\\")), (Str.ofString "escapedquotes", .str (lit "\"")), (Str.ofString "pushback", .val (.ref pb)), (Str.ofString "debug", .int 0), (Str.ofString "filestack", .val (.ref fk)), (Str.ofString "source", .none), (Str.ofString "_punctuation_chars", .str []), (Str.ofString "infile", .none)]
noncomputable def lexF (y pb fk : Addr) (st : AV) (tok : List Nat) (ln : Int) : Rho := (Str.ofString "state", st) :: (Str.ofString "token", .str tok) :: (Str.ofString "lineno", .int ln) :: lexR y pb fk
section
variable {y pb fk : Addr} {st st' : AV} {tok tok' : List Nat} {ln ln' : Int}
theorem lexF_state (z : Str) : (lexF y pb fk st' tok ln).lookup z = if z = Str.ofString "state" then some st' else (lexF y pb fk st tok ln).lookup z := by
  unfold lexF
  rw [lk_cons, lk_cons (v := st)]
  by_cases h : z = Str.ofString "state"
  · rw [if_pos h, if_pos h]
  · rw [if_neg h, if_neg h, if_neg h]
theorem lexF_token (z : Str) : (lexF y pb fk st tok' ln).lookup z = if z = Str.ofString "token" then some (.str tok') else (lexF y pb fk st tok ln).lookup z := by
  unfold lexF
  rw [lk_cons, lk_cons, lk_cons (v := st), lk_cons (v := .str tok)]
  by_cases h : z = Str.ofString "token"
  · subst h; rw [if_neg (by decide), if_pos rfl, if_pos rfl]
  · rw [if_neg h, if_neg h, if_neg h]
theorem lexF_ln (z : Str) : (lexF y pb fk st tok ln').lookup z = if z = Str.ofString "lineno" then some (.int ln') else (lexF y pb fk st tok ln).lookup z := by
  unfold lexF
  rw [lk_cons, lk_cons, lk_cons, lk_cons (v := st), lk_cons (v := .str tok), lk_cons (v := .int ln)]
  by_cases h : z = Str.ofString "lineno"
  · subst h; rw [if_neg (by decide), if_neg (by decide), if_pos rfl, if_pos rfl]
  · rw [if_neg h, if_neg h, if_neg h]
end
theorem f_state : findIn (KF w) (.ref 840) (Str.ofString "state") = some none := by kernel_rfl
theorem f_token : findIn (KF w) (.ref 840) (Str.ofString "token") = some none := by kernel_rfl
theorem f_lineno : findIn (KF w) (.ref 840) (Str.ofString "lineno") = some none := by kernel_rfl
theorem f_instream : findIn (KF w) (.ref 840) (Str.ofString "instream") = some none := by kernel_rfl
theorem f_posix : findIn (KF w) (.ref 840) (Str.ofString "posix") = some none := by kernel_rfl
theorem f_eof : findIn (KF w) (.ref 840) (Str.ofString "eof") = some none := by kernel_rfl
theorem f_commenters : findIn (KF w) (.ref 840) (Str.ofString "commenters") = some none := by kernel_rfl
theorem f_wordchars : findIn (KF w) (.ref 840) (Str.ofString "wordchars") = some none := by kernel_rfl
theorem f_whitespace : findIn (KF w) (.ref 840) (Str.ofString "whitespace") = some none := by kernel_rfl
theorem f_whitespace_split : findIn (KF w) (.ref 840) (Str.ofString "whitespace_split") = some none := by kernel_rfl
theorem f_quotes : findIn (KF w) (.ref 840) (Str.ofString "quotes") = some none := by kernel_rfl
theorem f_escape : findIn (KF w) (.ref 840) (Str.ofString "escape") = some none := by kernel_rfl
theorem f_escapedquotes : findIn (KF w) (.ref 840) (Str.ofString "escapedquotes") = some none := by kernel_rfl
theorem f_pushback : findIn (KF w) (.ref 840) (Str.ofString "pushback") = some none := by kernel_rfl
theorem f_debug : findIn (KF w) (.ref 840) (Str.ofString "debug") = some none := by kernel_rfl
theorem f_filestack : findIn (KF w) (.ref 840) (Str.ofString "filestack") = some none := by kernel_rfl
theorem f_source : findIn (KF w) (.ref 840) (Str.ofString "source") = some none := by kernel_rfl
theorem f_infile : findIn (KF w) (.ref 840) (Str.ofString "infile") = some none := by kernel_rfl
theorem f_punct : findIn (KF w) (.ref 840) (Str.ofString "_punctuation_chars") = some none := by kernel_rfl
theorem EvTo.attrF {C : Fc} {ρ : Rho} {μ : Mu} {x K dx : Addr} {o : PySem.Expr} {attr : Str} {pos : Pos} {av : AV} (hf : ∃ m v, C.h₀.Ns1 dx m ∧ m attr = some v ∧ ∀ F, VR F av v) (ho : EvTo w C ρ μ o (.val (.ref x))) (hI : C.h₀.get? x = some (instObj K dx)) (hc : ClsOk w K) (hn : findIn (KF w) (.ref K) attr = some none) (hh : handedAV av = true := by rfl)
    (he : eval (.Attribute o attr pos) C.env = (do
      let o' ← eval o C.env
      standAt pos.atName
      let r ← holding [o'] (getAttr o' attr true)
      letTemporaryGo o o' r
      pure r) := by with_unfolding_all rfl) : EvTo w C ρ μ (.Attribute o attr pos) av :=
  fun A s Q E hr h1 R hQ => Attribute_any_ (ho A s _ _ hr h1 R fun v h' tk h1' g k => by
    obtain rfl := vr_val k
    have R' := R.grow g
    obtain ⟨m, u, hns, hu, ku⟩ := hf
    obtain ⟨od, hod, hlk⟩ := ns1_look (hns.keeps R'.keep)
    refine get_value (K := KF w) ((R'.ok.base.grow R'.keep).kin) (inst_at (R'.keep _ _ hI) hod) hc.ga (findObj_own hc.dict hn rfl (by rw [hlk, hu])) (handed_vr (ku (fun _ => none)) hh) ?_
    exact hQ _ h' _ (Nat.le_succ_of_le h1') g (ku _)) he
noncomputable def PunctAt (x dx : Addr) (h : Heap) : Prop := h.get? x = some (instObj 840 dx) ∧ ∃ m t, h.Ns1 dx m ∧ m (Str.ofString "_punctuation_chars") = some (.str (mk []) t)
theorem PunctAt.grow {x dx : Addr} (h h' : Heap) (z : PunctAt x dx h) (g : Grow h h') : PunctAt x dx h' := ⟨g _ _ z.1, let ⟨m, t, a, b⟩ := z.2; ⟨m, t, a.keeps g, b⟩⟩
theorem punct_ok {x dx : Addr} : CallsM w (d + 1) (PunctAt x dx) (.ref 771) [.val (.ref x)] [] [] (.str []) [] := by
  refine enterM (ρ := [(Str.ofString "self", .val (.ref x))]) (by rfl) (by kernel_rfl) (BindTo.plain (names := [Str.ofString "self"]) (fun vs h => ?_) (by decide) (by decide)) rfl (fun h₀ L ex hI => ?_) rfl rfl rfl (by decide) PunctAt.grow
  · (obtain ⟨v, rfl⟩ := ln1 h; rfl)
  · obtain ⟨hx, m, t, hns, hm⟩ := hI
    exact ExTo.ret (EvTo.attrF ⟨m, _, hns, hm, fun F => vr_str' (Nat.zero_le _)⟩ (EvTo.name (by walk_at "lk")) hx c840 f_punct) BackM.same
theorem hideAll_nil {h : Heap} : Grow h (hideAll h []) := fun b o e => hideAll_get _ e List.not_mem_nil
theorem rec772 : ∃ rest, recIn (KF w) 772 "property" = some (.ref 771 :: rest) := by
  have h : (recIn (KF w) 772 "property").bind (·[0]?) = some (.ref 771) := by kernel_rfl
  cases q : recIn (KF w) 772 "property" with
  | none => rw [q] at h; cases h
  | some l => cases l with
    | nil => rw [q] at h; cases h
    | cons a r => rw [q] at h; cases h; exact ⟨r, rfl⟩
theorem p772 : (clsIn (KF w) 840).isSome = true ∧ findIn (KF w) (.ref 840) (Str.ofString "punctuation_chars") = some (some (.ref 772)) ∧ specialIn (KF w) (.ref 772) "__get__" = some (some (.builtin "property.__get__")) ∧ takesIn (KF w) (.ref 772) = some true :=
  ⟨by kernel_rfl, by kernel_rfl, by kernel_rfl, by kernel_rfl⟩
theorem EvTo.punct {C : Fc} {ρ : Rho} {μ : Mu} {x dx : Addr} {fs : Rho} {o : PySem.Expr} {pos : Pos} {dd : Nat} (hd : C.d = dd + 2) (hm : (dx, MO.dict fs) ∈ μ) (hl : fs.lookup (Str.ofString "_punctuation_chars") = some (.str [])) (ho : EvTo w C ρ μ o (.val (.ref x))) (hI : C.h₀.get? x = some (instObj 840 dx))
    (he : eval (.Attribute o (Str.ofString "punctuation_chars") pos) C.env = (do
      let o' ← eval o C.env
      standAt pos.atName
      let r ← holding [o'] (getAttr o' (Str.ofString "punctuation_chars") true)
      letTemporaryGo o o' r
      pure r) := by with_unfolding_all rfl) : EvTo w C ρ μ (.Attribute o (Str.ofString "punctuation_chars") pos) (.str []) :=
  fun A s Q E hr h1 R hQ => Attribute_any_ (ho A s _ _ hr h1 R fun v h' tk h1' g k => by
    obtain rfl := vr_val k
    have R' := R.grow g
    obtain ⟨m, hns, hf, _⟩ := R'.mus _ hm
    obtain ⟨od, hod, hlk⟩ := ns1_look hns
    obtain ⟨u, hu, ku⟩ := hf _ _ hl
    obtain ⟨⟨t, rfl⟩, _⟩ := vr_str ku
    have X := (R'.ok.base.grow R'.keep).kin
    have hx := R'.keep _ _ hI
    have B' : Base w (hideAll h' (ads [])) := (R'.ok.base.grow R'.keep).grow hideAll_nil
    obtain ⟨rest, hrec⟩ := rec772 (w := w)
    refine get_bind (K := KF w) X (inst_at hx hod) c840.ga (findObj_data (K := KF w) (C := 840) (a := .ref 772) (g := .builtin "property.__get__") p772.1 p772.2.1 p772.2.2.1 p772.2.2.2) c840.gh (wpAny_call (prop_get (s := { s with heap := h', toks := tk + 1 }) X hrec ?_))
    refine punct_ok (d := dd) (dx := dx) _ _ [] _ _ ?_ (Nat.le_succ_of_le h1') ⟨B', ?_, (fun a ha => by cases ha), (fun a ha => by cases ha), List.nodup_nil, (fun a ha => by cases ha), VRs.cons vr_val' VRs.nil⟩ fun v2 h2 tk2 h12 S => ?_
    · rw [hd] at hr
      exact ⟨⟨by have := hr.1.1; show A.depth + (dd + 1) + 120 < recursionLimit; (first | lia | omega), hr.1.2⟩, by have := hr.2.1; show A.units + 1 + 10 * (dd + 1) + 100 < cLine; (first | lia | omega), hr.2.2⟩
    · exact PunctAt.grow _ _ ⟨hx, m, t, hns, hu⟩ hideAll_nil
    · have g2 : Grow h' h2 := fun b o e => S.keep b o (hideAll_nil _ _ e)
      obtain ⟨⟨t2, rfl⟩, _⟩ := vr_str S.res
      show wpAny _ _ (handedOut (.str (mk []) t2)) _ _ _
      rw [handedOut_of rfl]
      exact wpAny_pure (hQ _ h2 tk2 h12 (g.trans g2) (vr_str' (Nat.zero_le _)))) he
end
end
section
section
variable {w : World} {C : Fc} {ρ : Rho} {μ : Mu} {P : Out → Prop} {d : Nat}
theorem ExTo.brk {p : Pos} {rest : List Stmt} (k : P (.brk ρ μ)) : ExTo w C ρ μ (.Break p :: rest) P :=
  ExTo.cons X1To.break (fun _ _ e => by cases e) (fun _ _ e => by cases e; exact k) (fun _ _ e => by cases e) (fun _ _ _ e => by cases e)
theorem ExTo.cnt {p : Pos} {rest : List Stmt} (k : P (.cont ρ μ)) : ExTo w C ρ μ (.Continue p :: rest) P :=
  ExTo.cons X1To.continue (fun _ _ e => by cases e) (fun _ _ e => by cases e) (fun _ _ e => by cases e; exact k) (fun _ _ _ e => by cases e)
structure LxAt (x dx y dy pb fk : Addr) (h : Heap) : Prop where
  lx : h.get? x = some (instObj 840 dx)
  io : h.get? y = some (instObj 705 dy)
  pb : h.get? pb = some dqObj
  fk : h.get? fk = some dqObj
theorem LxAt.grow {x dx y dy pb fk : Addr} (h h' : Heap) (z : LxAt x dx y dy pb fk h) (g : Grow h h') : LxAt x dx y dy pb fk h' := ⟨g _ _ z.lx, g _ _ z.io, g _ _ z.pb, g _ _ z.fk⟩
noncomputable def okK (st : Option Nat) : Prop := st = none ∨ st = some 32 ∨ st = some 39 ∨ st = some 34 ∨ st = some 92 ∨ st = some 97
noncomputable def okE (e : Nat) : Prop := e = 32 ∨ e = 34 ∨ e = 97
theorem okK_esc {e : Nat} (h : okE e) : okK (some e) := by rcases h with rfl | rfl | rfl <;> simp [okK]
noncomputable def tokAV (s : LS) : AV := if !s.q && s.tok.isEmpty then .none else .str s.tok
noncomputable def lexμ (dx dy y pb fk : Addr) (buf : List Nat) (s : LS) (pos : Nat) : Mu := [(dx, .dict (lexF y pb fk (stAV s.st) s.tok s.ln)), (dy, .dict (ioF buf pos))]
noncomputable def RtI (x dx y dy pb fk : Addr) (buf : List Nat) (E : LS × List Nat) (n : Nat) (ρ : Rho) (μ : Mu) : Prop := ∃ (s : LS) (pos : Nat), n = buf.length - pos ∧ pos ≤ buf.length ∧ okK s.st ∧ okE s.esc ∧ rd s (buf.drop pos) = some E ∧ s.tok.length + 2 * (buf.length - pos) ≤ 2 * buf.length ∧ μ = lexμ dx dy y pb fk buf s pos ∧
  ρ.lookup (Str.ofString "self") = some (.val (.ref x)) ∧ ρ.lookup (Str.ofString "quoted") = some (.bool s.q) ∧ ρ.lookup (Str.ofString "escapedstate") = some (.str [s.esc])
theorem rd_next {s s' : LS} {c : Nat} {r : List Nat} {E : LS × List Nat} (hs : lstep s c = (s', false)) (h : rd s (c :: r) = some E) : rd s' r = some E := by
  unfold rd at h; rw [hs] at h; exact h
theorem rd_brk {s s' : LS} {c : Nat} {r : List Nat} {E : LS × List Nat} (hs : lstep s c = (s', true)) (h : rd s (c :: r) = some E) : E = (s', r) := by
  unfold rd at h; rw [hs] at h; exact (Option.some.inj h).symm
theorem rd_end {s s' : LS} {E : LS × List Nat} (hs : lend s = some s') (h : rd s [] = some E) : E = (s', []) := by
  unfold rd at h; rw [hs] at h; exact (Option.some.inj h).symm
theorem rd_bad {s : LS} {E : LS × List Nat} (hs : lend s = none) (h : rd s [] = some E) : False := by
  unfold rd at h; rw [hs] at h; cases h
noncomputable def lnn (nc : List Nat) (n : Int) : Int := if nc == [10] then n + 1 else n
theorem lnn_one (c : Nat) (n : Int) : lnn [c] n = lnl c n := by
  unfold lnn lnl
  by_cases h : c = 10
  · subst h; rfl
  · rw [if_neg (by simpa using h), if_neg (by simpa using h)]
end
end
local macro_rules | `(tactic| walk_at "my_mem") => `(tactic| first | exact List.Mem.head _ | exact List.Mem.tail _ (List.Mem.head _) | exact List.Mem.tail _ (List.Mem.tail _ (List.Mem.head _)))
local macro_rules | `(tactic| walk_at "my_mem") => `(tactic| fail "no cell")
local macro_rules | `(tactic| walk_at "my_attr") => `(tactic| fail "no attr")
local macro_rules | `(tactic| walk_at "my_attr") => `(tactic| first
  | ((with_reducible show EvTo _ _ _ _ (PySem.Expr.Attribute _ ("punctuation_chars" : Str) _) _); exact EvTo.punct rfl (List.Mem.head _) (by rfl) (EvTo.name (by walk_at "lk")) (by assumption))
  | (refine' EvTo.attr (K := 840) (List.Mem.head _) ?l ?o ?I c840 ?f (hh := ?hh); (case f => walk_at "my_f"); (case l => rfl); (case o => exact EvTo.name (by walk_at "lk")); (case I => assumption); (case hh => rfl)))
local macro_rules | `(tactic| walk_at "my_f") => `(tactic| with_reducible first | exact f_state | exact f_token | exact f_lineno | exact f_instream | exact f_posix | exact f_eof | exact f_commenters | exact f_wordchars | exact f_whitespace | exact f_whitespace_split | exact f_quotes | exact f_escape | exact f_escapedquotes | exact f_pushback | exact f_debug | exact f_filestack | exact f_source | exact f_infile | exact f_punct)
local macro_rules | `(tactic| walk_at "iF") => `(tactic| (refine' ExTo.iff ?q1 (fun h => ?q2) (fun _ => ?_); (case q1 => walk_at "tr"); (case q2 => first | (cases h; done) | (exfalso; simp at h; done)); walk_at "app"))
local macro_rules | `(tactic| walk_at "iT") => `(tactic| (refine' ExTo.iff ?q1 (fun _ => ?_) (fun h => ?q2); (case q1 => walk_at "tr"); (case q2 => first | (cases h; done) | (exfalso; simp at h; done)); walk_at "app"))
local macro_rules | `(tactic| walk_at "sS") => `(tactic| (refine' ExTo.then (X1To.setattr (pre := []) lexF_state ?q1 ?q2 (by assumption) c840 (taker_of f_state) (Nat.le_of_ble_eq_true rfl)) ?_; (case q1 => walk_at "ev"); (case q2 => walk_at "ev")))
local macro_rules | `(tactic| walk_at "sT") => `(tactic| (refine' ExTo.then (X1To.setattr (pre := []) lexF_token ?q1 ?q2 (by assumption) c840 (taker_of f_token) (Nat.le_of_ble_eq_true rfl)) ?_; (case q1 => walk_at "ev"); (case q2 => walk_at "ev")))
local macro_rules | `(tactic| walk_at "aT") => `(tactic| (refine' ExTo.then (X1To.augattr (pre := []) lexF_token (by rfl) ?q1 (op_iadds ?q3) ?q2 (by assumption) c840 (taker_of f_token) f_token (Nat.le_of_ble_eq_true rfl)) ?_; (case q1 => walk_at "ev"); (case q2 => walk_at "ev"); (case q3 => walk_at "le")))
section
section
variable {tok : List Nat} {q : Bool} {esc c : Nat} {ln : Int}
theorem nt {b : Bool} (h : b = false) : ¬ b = true := by rw [h]; decide
theorem ls32a {b : Bool} (h1 : decide (c ∈ WS) = true) (e : (!tok.isEmpty || q) = b) : lstep ⟨some 32, tok, q, esc, ln⟩ c = (⟨some 32, tok, q, esc, lnl c ln⟩, b) := by
  subst e; exact if_pos h1
theorem ls32c (h1 : decide (c ∈ WS) = false) (h2 : c ≠ 92) (h4 : decide (c ∈ [39, 34]) = true) : lstep ⟨some 32, tok, q, esc, ln⟩ c = (⟨some c, tok, q, esc, lnl c ln⟩, false) :=
  (if_neg (nt h1)).trans ((if_neg (nt (beq_eq_false_iff_ne.mpr h2))).trans (if_pos h4))
theorem ls32d (h1 : decide (c ∈ WS) = false) (h2 : c ≠ 92) (h4 : decide (c ∈ [39, 34]) = false) : lstep ⟨some 32, tok, q, esc, ln⟩ c = (⟨some 97, [c], q, esc, lnl c ln⟩, false) :=
  (if_neg (nt h1)).trans ((if_neg (nt (beq_eq_false_iff_ne.mpr h2))).trans (if_neg (nt h4)))
theorem ls39 (h1 : c ≠ 39) : lstep ⟨some 39, tok, q, esc, ln⟩ c = (⟨some 39, tok ++ [c], true, esc, lnl c ln⟩, false) :=
  (if_neg (nt (beq_eq_false_iff_ne.mpr h1))).trans (if_neg (nt (Bool.and_false _)))
theorem ls34 (h1 : c ≠ 34) (h3 : c ≠ 92) : lstep ⟨some 34, tok, q, esc, ln⟩ c = (⟨some 34, tok ++ [c], true, esc, lnl c ln⟩, false) :=
  (if_neg (nt (beq_eq_false_iff_ne.mpr h1))).trans (if_neg (nt (by rw [beq_eq_false_iff_ne.mpr h3]; rfl)))
theorem ls92a (e : (decide (esc ∈ [39, 34]) && (c != 92 && c != esc)) = true) : lstep ⟨some 92, tok, q, esc, ln⟩ c = (⟨some esc, tok ++ [92] ++ [c], q, esc, lnl c ln⟩, false) :=
  congrArg (fun z => ((⟨some esc, z ++ [c], q, esc, lnl c ln⟩ : LS), false)) (if_pos e)
theorem ls92b (e : (decide (esc ∈ [39, 34]) && (c != 92 && c != esc)) = false) : lstep ⟨some 92, tok, q, esc, ln⟩ c = (⟨some esc, tok ++ [c], q, esc, lnl c ln⟩, false) :=
  congrArg (fun z => ((⟨some esc, z ++ [c], q, esc, lnl c ln⟩ : LS), false)) (if_neg (nt e))
theorem ls97a {b : Bool} (h1 : decide (c ∈ WS) = true) (e : (!tok.isEmpty || q) = b) : lstep ⟨some 97, tok, q, esc, ln⟩ c = (⟨some 32, tok, q, esc, lnl c ln⟩, b) := by
  subst e; exact if_pos h1
theorem ls97c (h1 : decide (c ∈ WS) = false) (h2 : decide (c ∈ [39, 34]) = true) : lstep ⟨some 97, tok, q, esc, ln⟩ c = (⟨some c, tok, q, esc, lnl c ln⟩, false) :=
  (if_neg (nt h1)).trans (if_pos h2)
theorem ls97d (h1 : decide (c ∈ WS) = false) (h2 : decide (c ∈ [39, 34]) = false) (h3 : c ≠ 92) : lstep ⟨some 97, tok, q, esc, ln⟩ c = (⟨some 97, tok ++ [c], q, esc, lnl c ln⟩, false) :=
  (if_neg (nt h1)).trans ((if_neg (nt h2)).trans (if_neg (nt (beq_eq_false_iff_ne.mpr h3))))
theorem okq (h : c = 39 ∨ c = 34) : okK (some c) := by
  rcases h with rfl | rfl
  · exact .inr (.inr (.inl rfl))
  · exact .inr (.inr (.inr (.inl rfl)))
theorem ok92 : okK (some 92) := .inr (.inr (.inr (.inr (.inl rfl))))
theorem ok97 : okK (some 97) := .inr (.inr (.inr (.inr (.inr rfl))))
end
section
variable {w : World} {d : Nat}
theorem readtok_ok {x dx y dy pb fk : Addr} {buf : List Nat} {pos : Nat} {st : Option Nat} {ln : Int} {E : LS × List Nat} (hE : rd ⟨st, [], false, 32, ln⟩ (buf.drop pos) = some E) (hst : okK st) (hpos : pos ≤ buf.length) (hl : 2 * buf.length + 2 ≤ LIM) :
    CallsM w (d + 3) (LxAt x dx y dy pb fk) (.ref 808) [.val (.ref x)] [] (lexμ dx dy y pb fk buf ⟨st, [], false, 32, ln⟩ pos) (tokAV E.1) (lexμ dx dy y pb fk buf { E.1 with tok := [] } (buf.length - E.2.length)) := by
  refine enterM (ρ := [(Str.ofString "self", .val (.ref x))]) (by rfl) (by kernel_rfl) (BindTo.plain (names := [Str.ofString "self"]) (fun vs h => ?_) (by decide) (by decide)) rfl (fun h₀ L ex hI => ?_) rfl rfl rfl (by decide) LxAt.grow
  · (obtain ⟨v, rfl⟩ := ln1 h; rfl)
  · have hx : h₀.get? x = some (instObj 840 dx) := hI.lx
    have hy : h₀.get? y = some (instObj 705 dy) := hI.io
    walk_at "st"
    walk_at "st"
    refine' ExTo.cons (P1 := fun o => ∃ ρ', o = .next ρ' (lexμ dx dy y pb fk buf E.1 (buf.length - E.2.length)) ∧ ρ'.lookup (Str.ofString "self") = some (.val (.ref x)) ∧ ρ'.lookup (Str.ofString "quoted") = some (.bool E.1.q))
      (X1To.whileT (RtI x dx y dy pb fk buf E) (buf.length - pos) ⟨_, pos, rfl, hpos, hst, .inl rfl, hE, by simp; (first | lia | omega), rfl, by walk_at "lk", by walk_at "lk", by walk_at "lk"⟩ (fun ρ' μ' => TrTo.value EvTo.cbool op_truthb) ?turn) ?after (by rintro _ _ ⟨_, e, _⟩; cases e) (by rintro _ _ ⟨_, e, _⟩; cases e) (by rintro _ _ _ ⟨_, e, _⟩; cases e)
    case turn =>
      clear hE hst hpos pos ln st
      rintro n ρ' μ' ⟨s, pos, rfl, hpos, hst, hesc, hrd, htl, rfl, hself, hq, he⟩
      obtain ⟨st, tok, q, esc, ln⟩ := s
      dsimp only at hst hesc htl hq he
      obtain ⟨nc, hnc⟩ : ∃ nc, nc = (buf.drop pos).head?.toList := ⟨_, rfl⟩
      have hread : CallsM w (d + 2) (IoAt y dy) (.ref 651) [.val (.ref y), .int 1] [] [(dy, .dict (ioF buf pos))] (.str nc) [(dy, .dict (ioF buf (pos + nc.length : Nat)))] := by
        cases hb : buf.drop pos with
        | nil =>
          rw [hb] at hnc; subst hnc
          have : buf.length ≤ pos := by have := congrArg List.length hb; simp at this; (first | lia | omega)
          exact read_none this (by (first | lia | omega))
        | cons c r =>
          rw [hb] at hnc; subst hnc
          have hc : buf[pos]? = some c := by
            have := congrArg (·[0]?) hb
            simpa using this
          exact read_some hc (by (first | lia | omega))
      -- nextchar
      refine' ExTo.cons (P1 := fun o => ∃ ρ2, o = .next ρ2 [(dx, .dict (lexF y pb fk (stAV st) tok ln)), (dy, .dict (ioF buf (pos + nc.length : Nat)))] ∧ ρ2.lookup (Str.ofString "self") = some (.val (.ref x)) ∧ ρ2.lookup (Str.ofString "quoted") = some (.bool q) ∧ ρ2.lookup (Str.ofString "escapedstate") = some (.str [esc]) ∧ ρ2.lookup (Str.ofString "nextchar") = some (.str nc))
        (X1To.if (c := false && false) (TrTo.boolop (ATo.and (TrTo.value (by walk_at "ev") op_truths) (fun h => by cases h))) (fun h => by cases h) (fun _ => ?w1)) ?_ (by rintro _ _ ⟨_, e, _⟩; cases e) (by rintro _ _ ⟨_, e, _⟩; cases e) (by rintro _ _ _ ⟨_, e, _⟩; cases e)
      case w1 =>
        refine' ExTo.then (X1To.assignM (MvTo.meth1 (pre := [(dx, .dict (lexF y pb fk (stAV st) tok ln))]) (List.Mem.tail _ (List.Mem.head _)) (by rfl) ?q1 (ArgsTo.cons EvTo.cint ArgsTo.nil) hy c705 m_read hread hy IoAt.grow rfl)) ?_
        case q1 => walk_at "ev"
        exact ExTo.nil ⟨_, rfl, by walk_at "lk", by walk_at "lk", by walk_at "lk", by walk_at "lk"⟩
      rintro ρ2 _ ⟨_, e, hself2, hq2, he2, hnc2⟩
      cases e
      clear hself hq he ρ' hread
      -- lineno
      refine' ExTo.cons (P1 := fun o => o = .next ρ2 [(dx, .dict (lexF y pb fk (stAV st) tok (lnn nc ln))), (dy, .dict (ioF buf (pos + nc.length : Nat)))])
        (X1To.if (c := nc == [10]) (TrTo.cmp (EvTo.name hnc2) EvTo.cstr op_eqs) (fun h => ?w1) (fun h => ?w2)) ?_ (by rintro _ _ e; cases e) (by rintro _ _ e; cases e) (by rintro _ _ _ e; cases e)
      case w1 =>
        refine' ExTo.then (X1To.augattr (pre := []) lexF_ln (by rfl) EvTo.cint op_iaddi (EvTo.name hself2) hx c840 (taker_of f_lineno) f_lineno (Nat.le_of_ble_eq_true rfl)) ?_
        refine ExTo.nil ?_
        unfold lnn; rw [if_pos h]; rfl
      case w2 =>
        refine ExTo.nil ?_
        unfold lnn; rw [if_neg (by rw [h]; decide)]
      rintro _ _ e
      cases e
      walk_at "iF"
      cases hb : buf.drop pos with
      | nil =>
        rw [hb] at hnc
        have hnc : nc = [] := hnc
        subst hnc
        have hlen : pos = buf.length := by have := congrArg List.length hb
                                           simp at this
                                           (first | lia | omega)
        rw [hb] at hrd
        have hEE : ∀ s', lend ⟨st, tok, q, esc, ln⟩ = some s' → E = (s', []) := fun s' h => rd_end h hrd
        subst hlen
        show ExTo w _ ρ2 [(dx, .dict (lexF y pb fk (stAV st) tok ln)), (dy, .dict (ioF buf (buf.length : Nat)))] _ _
        rcases hst with rfl | rfl | rfl | rfl | rfl | rfl <;> dsimp only [stAV]
        · obtain rfl := hEE _ rfl
          walk_at "iT"
          walk_at "sT"
          exact ExTo.brk ⟨ρ2, rfl, hself2, hq2⟩
        · obtain rfl := hEE _ rfl
          walk_at "iF"
          walk_at "iT"
          walk_at "iT"
          walk_at "sS"
          exact ExTo.brk ⟨ρ2, rfl, hself2, hq2⟩
        · exact (rd_bad rfl hrd).elim
        · exact (rd_bad rfl hrd).elim
        · exact (rd_bad rfl hrd).elim
        · obtain rfl := hEE _ rfl
          walk_at "iF"
          walk_at "iF"
          walk_at "iF"
          walk_at "iF"
          walk_at "iT"
          walk_at "iT"
          walk_at "sS"
          exact ExTo.brk ⟨ρ2, rfl, hself2, hq2⟩
      | cons c r =>
        rw [hb] at hnc
        have hnc : nc = [c] := hnc
        subst hnc
        rw [hb] at hrd
        have hlen : r.length + 1 = buf.length - pos := by have := congrArg List.length hb; simp at this; (first | lia | omega)
        have hr : buf.drop (pos + 1) = r := by
          have := congrArg List.tail hb
          simpa using this
        have nextL : ∀ (s' : LS) (ρ' : Rho), lstep ⟨st, tok, q, esc, ln⟩ c = (s', false) → okK s'.st → okE s'.esc → s'.tok.length ≤ tok.length + 2 →
            ρ'.lookup (Str.ofString "self") = some (.val (.ref x)) → ρ'.lookup (Str.ofString "quoted") = some (.bool s'.q) → ρ'.lookup (Str.ofString "escapedstate") = some (.str [s'.esc]) →
            ∃ k, k < buf.length - pos ∧ RtI x dx y dy pb fk buf E k ρ' (lexμ dx dy y pb fk buf s' (pos + 1)) := fun s' ρ' h h1 h2 h3 h4 h5 h6 =>
          ⟨buf.length - (pos + 1), by (first | lia | omega), s', pos + 1, rfl, by (first | lia | omega), h1, h2, by rw [hr]; exact rd_next h hrd, by (first | lia | omega), rfl, h4, h5, h6⟩
        have brkL : ∀ (s' : LS) (ρ' : Rho), lstep ⟨st, tok, q, esc, ln⟩ c = (s', true) → ρ'.lookup (Str.ofString "self") = some (.val (.ref x)) → ρ'.lookup (Str.ofString "quoted") = some (.bool s'.q) →
            ∃ ρ2, Out.next ρ' (lexμ dx dy y pb fk buf s' (pos + 1)) = Out.next ρ2 (lexμ dx dy y pb fk buf E.1 (buf.length - E.2.length)) ∧ ρ2.lookup (Str.ofString "self") = some (.val (.ref x)) ∧ ρ2.lookup (Str.ofString "quoted") = some (.bool E.1.q) := fun s' ρ' h h1 h2 => by
          obtain rfl := rd_brk h hrd
          exact ⟨ρ', by rw [show buf.length - r.length = pos + 1 by (first | lia | omega)], h1, h2⟩
        have htl2 : tok.length + 2 ≤ LIM := by (first | lia | omega)
        rw [lnn_one c ln]
        show ExTo w _ ρ2 [(dx, .dict (lexF y pb fk (stAV st) tok (lnl c ln))), (dy, .dict (ioF buf (pos + 1 : Nat)))] _ _
        clear hrd hlen hr hb htl
        rcases hst with rfl | rfl | rfl | rfl | rfl | rfl <;> dsimp only [stAV]
        · walk_at "iT"
          walk_at "sT"
          exact ExTo.brk (brkL ⟨none, [], q, esc, lnl c ln⟩ ρ2 rfl hself2 hq2)
        · -- state ' '
          walk_at "iF"
          walk_at "iT"
          walk_at "iF"
          refine' ExTo.iff ?q1 (fun h1 => ?_) (fun h1 => ?_)
          case q1 => walk_at "tr"
          · have h1 : decide (c ∈ WS) = true := h1
            walk_at "app"
            walk_at "iF"
            refine' ExTo.iff ?q1 (fun h2 => ?_) (fun h2 => ?_)
            case q1 => walk_at "tr"
            · walk_at "app"
              have e : (!tok.isEmpty || q) = true := by cases q <;> simpa using h2
              exact ExTo.brk (brkL ⟨some 32, tok, q, esc, lnl c ln⟩ ρ2 (ls32a h1 e) hself2 hq2)
            · walk_at "app"
              have e : (!tok.isEmpty || q) = false := by cases q <;> simpa using h2
              exact ExTo.cnt (nextL ⟨some 32, tok, q, esc, lnl c ln⟩ ρ2 (ls32a h1 e) (.inr (.inl rfl)) hesc (Nat.le_add_right _ _) hself2 hq2 he2)
          have h1 : decide (c ∈ WS) = false := h1
          walk_at "app"
          walk_at "iF"
          refine' ExTo.iff ?q1 (fun h2 => ?_) (fun h2 => ?_)
          case q1 => walk_at "tr"
          · have h2 : (true && (decide (c ∈ [92]) && true)) = true := h2
            have h2 : c = 92 := by simpa using h2
            subst h2
            walk_at "app"
            walk_at "st"
            walk_at "sS"
            exact ExTo.nil (nextL ⟨some 92, tok, q, 97, lnl 92 ln⟩ _ rfl ok92 (.inr (.inr rfl)) (Nat.le_add_right _ _) (by walk_at "lk") (by walk_at "lk") (by walk_at "lk"))
          have h2 : (true && (decide (c ∈ [92]) && true)) = false := h2
          have h2 : c ≠ 92 := by simpa using h2
          walk_at "app"
          refine' ExTo.iff ?q1 (fun h3 => ?_) (fun h3 => ?_)
          case q1 => walk_at "tr"
          · have h3 : c ∈ WC := of_decide_eq_true h3
            have h4 : c ∉ [39, 34] := by
              intro h
              simp at h
              rcases h with rfl | rfl
              · exact absurd h3 (by decide)
              · exact absurd h3 (by decide)
            have h4 : decide (c ∈ [39, 34]) = false := decide_eq_false h4
            walk_at "app"
            walk_at "sT"
            walk_at "sS"
            exact ExTo.nil (nextL ⟨some 97, [c], q, esc, lnl c ln⟩ ρ2 (ls32d h1 h2 h4) ok97 hesc (by simp) hself2 hq2 he2)
          walk_at "app"
          walk_at "iF"
          refine' ExTo.iff ?q1 (fun h4 => ?_) (fun h4 => ?_)
          case q1 => walk_at "tr"
          · have h4 : decide (c ∈ [39, 34]) = true := h4
            have h5 : c = 39 ∨ c = 34 := by simpa using h4
            walk_at "app"
            walk_at "iF"
            walk_at "sS"
            exact ExTo.nil (nextL ⟨some c, tok, q, esc, lnl c ln⟩ ρ2 (ls32c h1 h2 h4) (okq h5) hesc (Nat.le_add_right _ _) hself2 hq2 he2)
          have h4 : decide (c ∈ [39, 34]) = false := h4
          walk_at "app"
          walk_at "iT"
          walk_at "sT"
          walk_at "sS"
          exact ExTo.nil (nextL ⟨some 97, [c], q, esc, lnl c ln⟩ ρ2 (ls32d h1 h2 h4) ok97 hesc (by simp) hself2 hq2 he2)
        · -- in quotes
          walk_at "iF"
          walk_at "iF"
          walk_at "iT"
          walk_at "st"
          walk_at "iF"
          refine' ExTo.iff ?q1 (fun h1 => ?_) (fun h1 => ?_)
          case q1 => walk_at "tr"
          · have h1 : c = 39 := by simpa using h1
            subst h1
            walk_at "app"
            walk_at "iF"
            walk_at "sS"
            exact ExTo.nil (nextL ⟨some 97, tok, true, esc, lnl 39 ln⟩ _ rfl ok97 hesc (Nat.le_add_right _ _) (by walk_at "lk") (by walk_at "lk") (by walk_at "lk"))
          have h1 : c ≠ 39 := by simpa using h1
          walk_at "app"
          refine' ExTo.iff ?q1 (fun h2 => ?_) (fun h2 => ?_)
          case q1 => walk_at "tr"
          · have h2 : (true && (decide (c ∈ [92]) && (decide (39 ∈ [34]) && true))) = true := h2
            simp at h2
          walk_at "app"
          have h2 : (true && (decide (c ∈ [92]) && (decide (39 ∈ [34]) && true))) = false := h2
          walk_at "aT"
          exact ExTo.nil (nextL ⟨some 39, tok ++ [c], true, esc, lnl c ln⟩ _ (ls39 h1) (okq (.inl rfl)) hesc (by simp) (by walk_at "lk") (by walk_at "lk") (by walk_at "lk"))
        · -- in quotes
          walk_at "iF"
          walk_at "iF"
          walk_at "iT"
          walk_at "st"
          walk_at "iF"
          refine' ExTo.iff ?q1 (fun h1 => ?_) (fun h1 => ?_)
          case q1 => walk_at "tr"
          · have h1 : c = 34 := by simpa using h1
            subst h1
            walk_at "app"
            walk_at "iF"
            walk_at "sS"
            exact ExTo.nil (nextL ⟨some 97, tok, true, esc, lnl 34 ln⟩ _ rfl ok97 hesc (Nat.le_add_right _ _) (by walk_at "lk") (by walk_at "lk") (by walk_at "lk"))
          have h1 : c ≠ 34 := by simpa using h1
          walk_at "app"
          refine' ExTo.iff ?q1 (fun h2 => ?_) (fun h2 => ?_)
          case q1 => walk_at "tr"
          · have h2 : (true && (decide (c ∈ [92]) && (decide (34 ∈ [34]) && true))) = true := h2
            have h3 : c = 92 := by simpa using h2
            subst h3
            walk_at "app"
            walk_at "st"
            walk_at "sS"
            exact ExTo.nil (nextL ⟨some 92, tok, true, 34, lnl 92 ln⟩ _ rfl ok92 (.inr (.inl rfl)) (Nat.le_add_right _ _) (by walk_at "lk") (by walk_at "lk") (by walk_at "lk"))
          walk_at "app"
          have h2 : (true && (decide (c ∈ [92]) && (decide (34 ∈ [34]) && true))) = false := h2
          have h3 : c ≠ 92 := fun h => by subst h; exact absurd h2 (by decide)
          walk_at "aT"
          exact ExTo.nil (nextL ⟨some 34, tok ++ [c], true, esc, lnl c ln⟩ _ (ls34 h1 h3) (okq (.inr rfl)) hesc (by simp) (by walk_at "lk") (by walk_at "lk") (by walk_at "lk"))
        · -- behind a backslash
          walk_at "iF"
          walk_at "iF"
          walk_at "iF"
          walk_at "iT"
          walk_at "iF"
          refine' ExTo.iff ?q1 (fun h1 => ?_) (fun h1 => ?_)
          case q1 => walk_at "tr"
          · have h1 : (decide (esc ∈ [39, 34]) && ([c] != [92] && ([c] != [esc] && true))) = true := h1
            have e : (decide (esc ∈ [39, 34]) && (c != 92 && c != esc)) = true := by simpa using h1
            walk_at "app"
            walk_at "aT"
            walk_at "aT"
            walk_at "sS"
            exact ExTo.nil (nextL ⟨some esc, tok ++ [92] ++ [c], q, esc, lnl c ln⟩ ρ2 (ls92a e) (okK_esc hesc) hesc (by simp) hself2 hq2 he2)
          · have h1 : (decide (esc ∈ [39, 34]) && ([c] != [92] && ([c] != [esc] && true))) = false := h1
            have e : (decide (esc ∈ [39, 34]) && (c != 92 && c != esc)) = false := by
              have : ([c] != [92] && ([c] != [esc] && true)) = (c != 92 && c != esc) := by
                by_cases a : c = 92 <;> by_cases b : c = esc <;> simp [a, b, bne]
              rw [← this]; exact h1
            walk_at "app"
            walk_at "aT"
            walk_at "sS"
            exact ExTo.nil (nextL ⟨some esc, tok ++ [c], q, esc, lnl c ln⟩ ρ2 (ls92b e) (okK_esc hesc) hesc (by simp) hself2 hq2 he2)
        · -- in a word
          walk_at "iF"
          walk_at "iF"
          walk_at "iF"
          walk_at "iF"
          walk_at "iT"
          walk_at "iF"
          refine' ExTo.iff ?q1 (fun h1 => ?_) (fun h1 => ?_)
          case q1 => walk_at "tr"
          · have h1 : decide (c ∈ WS) = true := h1
            walk_at "app"
            walk_at "iF"
            walk_at "sS"
            refine' ExTo.iff ?q1 (fun h2 => ?_) (fun h2 => ?_)
            case q1 => walk_at "tr"
            · walk_at "app"
              have e : (!tok.isEmpty || q) = true := by cases q <;> simpa using h2
              exact ExTo.brk (brkL ⟨some 32, tok, q, esc, lnl c ln⟩ ρ2 (ls97a h1 e) hself2 hq2)
            · walk_at "app"
              have e : (!tok.isEmpty || q) = false := by cases q <;> simpa using h2
              exact ExTo.cnt (nextL ⟨some 32, tok, q, esc, lnl c ln⟩ ρ2 (ls97a h1 e) (.inr (.inl rfl)) hesc (Nat.le_add_right _ _) hself2 hq2 he2)
          have h1 : decide (c ∈ WS) = false := h1
          walk_at "app"
          walk_at "iF"
          walk_at "iF"
          refine' ExTo.iff ?q1 (fun h2 => ?_) (fun h2 => ?_)
          case q1 => walk_at "tr"
          · have h2 : (true && (decide (c ∈ [39, 34]) && true)) = true := h2
            have h2 : decide (c ∈ [39, 34]) = true := by simpa using h2
            have h5 : c = 39 ∨ c = 34 := by simpa using h2
            walk_at "app"
            walk_at "sS"
            exact ExTo.nil (nextL ⟨some c, tok, q, esc, lnl c ln⟩ ρ2 (ls97c h1 h2) (okq h5) hesc (Nat.le_add_right _ _) hself2 hq2 he2)
          have h2 : (true && (decide (c ∈ [39, 34]) && true)) = false := h2
          have h2 : decide (c ∈ [39, 34]) = false := by simpa using h2
          walk_at "app"
          refine' ExTo.iff ?q1 (fun h3 => ?_) (fun h3 => ?_)
          case q1 => walk_at "tr"
          · have h3 : (true && (decide (c ∈ [92]) && true)) = true := h3
            have h3 : c = 92 := by simpa using h3
            subst h3
            walk_at "app"
            walk_at "st"
            walk_at "sS"
            exact ExTo.nil (nextL ⟨some 92, tok, q, 97, lnl 92 ln⟩ _ rfl ok92 (.inr (.inr rfl)) (Nat.le_add_right _ _) (by walk_at "lk") (by walk_at "lk") (by walk_at "lk"))
          have h3 : (true && (decide (c ∈ [92]) && true)) = false := h3
          have h3 : c ≠ 92 := by simpa using h3
          walk_at "app"
          walk_at "iT"
          walk_at "aT"
          exact ExTo.nil (nextL ⟨some 97, tok ++ [c], q, esc, lnl c ln⟩ ρ2 (ls97d h1 h2 h3) ok97 hesc (by simp) hself2 hq2 he2)
    case after =>
      rintro ρ2 _ ⟨_, e, hself2, hq2⟩
      cases e
      clear hE
      obtain ⟨⟨st2, tok, q, esc, ln2⟩, rE⟩ := E
      dsimp only at hq2
      show ExTo w _ ρ2 [(dx, .dict (lexF y pb fk (stAV st2) tok ln2)), (dy, .dict (ioF buf (buf.length - rE.length : Nat)))] _ _
      walk_at "st"
      walk_at "sT"
      refine' ExTo.iff ?q1 (fun h2 => ?_) (fun h2 => ?_)
      case q1 => walk_at "tr"
      · have h2 : (true && (!q && (tok == [] && true))) = true := h2
        have e : tokAV ⟨st2, tok, q, esc, ln2⟩ = .none := by
          unfold tokAV
          rw [if_pos]
          cases q <;> cases tok <;> simp at h2 ⊢
        rw [e]
        walk_at "app"
        walk_at "st"
        walk_at "iF"
        exact ExTo.ret (EvTo.name (by walk_at "lk")) BackM.same
      · have h2 : (true && (!q && (tok == [] && true))) = false := h2
        have e : tokAV ⟨st2, tok, q, esc, ln2⟩ = .str tok := by
          unfold tokAV
          rw [if_neg]
          cases q <;> cases tok <;> simp at h2 ⊢
        rw [e]
        walk_at "app"
        walk_at "iF"
        exact ExTo.ret (EvTo.name (by walk_at "lk")) BackM.same
end
end
section
section
variable {w : World} {C : Fc} {ρ : Rho} {μ : Mu} {P : Out → Prop} {d : Nat}
theorem op_truthdq {pb : Addr} (h : C.h₀.get? pb = some dqObj) : OpB w C ρ μ truthy (.val (.ref pb)) false :=
  fun A s Q E u _ _ R hu hQ => by
    obtain rfl := vr_val hu
    exact truthy_dq (R.keep _ _ h) (hQ s.heap _ (Grow.refl _))
theorem X1To.while1 {t : PySem.Expr} {body : List Stmt} {p : Pos} {c : Bool} (ht : TrTo w C ρ μ t c) (hf : c = false → P (.next ρ μ))
    (hb : c = true → ExTo w C ρ μ body (fun o => match o with | .next _ _ => False | .cont _ _ => False | .brk ρ2 μ2 => P (.next ρ2 μ2) | .ret av ρ2 μ2 => P (.ret av ρ2 μ2))) :
    X1To w C ρ μ (.While t body [] p) P :=
  fun A s Q E hr h1 R hQ => wpAny_While (codeAny_whileLoop (fun n s' => s' = s) (by
    rintro n s' rfl
    refine ht A _ _ _ hr h1 R fun h2 tk2 h12 g2 => ?_
    cases c with
    | false =>
      simp only [Bool.false_eq_true, if_false]
      exact wpAny_execs_nil (hQ _ _ h2 tk2 h12 (hf rfl) ⟨rfl, R.grow g2⟩)
    | true =>
      simp only [if_true]
      refine hb rfl A _ _ _ hr h12 (R.grow g2) fun fl o h3 tk3 h13 p x => ?_
      cases o with
      | next ρ4 μ4 => exact p.elim
      | cont ρ4 μ4 => exact p.elim
      | brk ρ4 μ4 => obtain ⟨rfl, R4⟩ := x; exact hQ _ _ h3 tk3 h13 p ⟨rfl, R4⟩
      | ret av ρ4 μ4 => obtain ⟨v', rfl, R4, k4⟩ := x; exact hQ _ _ h3 tk3 h13 p ⟨v', rfl, R4, k4⟩) 0 rfl)
theorem m_readtok : MFn w 840 808 (Str.ofString "read_token") := ⟨by kernel_rfl, by kernel_rfl, by kernel_rfl⟩
theorem m_gettok : MFn w 840 801 (Str.ofString "get_token") := ⟨by kernel_rfl, by kernel_rfl, by kernel_rfl⟩
theorem gettok_ok {x dx y dy pb fk : Addr} {buf : List Nat} {pos : Nat} {st : Option Nat} {ln : Int} {E : LS × List Nat} (hE : rd ⟨st, [], false, 32, ln⟩ (buf.drop pos) = some E) (hst : okK st) (hpos : pos ≤ buf.length) (hl : 2 * buf.length + 2 ≤ LIM) :
    CallsM w (d + 4) (LxAt x dx y dy pb fk) (.ref 801) [.val (.ref x)] [] (lexμ dx dy y pb fk buf ⟨st, [], false, 32, ln⟩ pos) (tokAV E.1) (lexμ dx dy y pb fk buf { E.1 with tok := [] } (buf.length - E.2.length)) := by
  refine enterM (ρ := [(Str.ofString "self", .val (.ref x))]) (by rfl) (by kernel_rfl) (BindTo.plain (names := [Str.ofString "self"]) (fun vs h => ?_) (by decide) (by decide)) rfl (fun h₀ L ex hI => ?_) rfl rfl rfl (by decide) LxAt.grow
  · (obtain ⟨v, rfl⟩ := ln1 h; rfl)
  · have hx : h₀.get? x = some (instObj 840 dx) := hI.lx
    refine' ExTo.iff (c := false) (TrTo.value ?q1 (op_truthdq hI.pb)) (fun h => by cases h) (fun _ => ?_)
    case q1 => show EvTo w _ _ [(dx, .dict (lexF y pb fk (stAV st) [] ln)), (dy, .dict (ioF buf pos))] _ _; walk_at "ev"
    walk_at "app"
    refine' ExTo.then (X1To.assignM (MvTo.meth0 (pre := []) (List.Mem.head _) (by rfl) (EvTo.name (by walk_at "lk")) hx c840 m_readtok (readtok_ok hE hst hpos hl) hI LxAt.grow rfl)) ?_
    show ExTo w _ _ [(dx, .dict (lexF y pb fk (stAV E.1.st) [] E.1.ln)), (dy, .dict (ioF buf (buf.length - E.2.length : Nat)))] _ _
    have hk : tokAV E.1 = .none ∨ ∃ t, tokAV E.1 = .str t := by
      unfold tokAV; split
      · exact .inl rfl
      · exact .inr ⟨_, rfl⟩
    generalize tokAV E.1 = r at hk ⊢
    walk_at "iF"
    rcases hk with rfl | ⟨t, rfl⟩
    · refine' ExTo.cons (P1 := fun o => ∃ ρ', o = .ret .none ρ' [(dx, .dict (lexF y pb fk (stAV E.1.st) [] E.1.ln)), (dy, .dict (ioF buf (buf.length - E.2.length : Nat)))]) (X1To.while1 (c := true) ?q1 (fun h => by cases h) (fun _ => ?q2)) (by rintro _ _ ⟨_, e⟩; cases e) (by rintro _ _ ⟨_, e⟩; cases e) (by rintro _ _ ⟨_, e⟩; cases e) ?q3
      case q1 => walk_at "tr"
      case q2 =>
        refine' ExTo.iff (c := !false) (TrTo.not (TrTo.value ?q1 (op_truthdq hI.fk))) (fun _ => ?_) (fun h => by cases h)
        case q1 => walk_at "ev"
        walk_at "app"
        refine' ExTo.ret ?q1 ⟨_, rfl⟩
        case q1 => walk_at "ev"
      case q3 =>
        rintro _ _ _ ⟨_, e⟩
        cases e
        exact BackM.same
    · refine' ExTo.cons (P1 := fun o => ∃ ρ', o = .next ρ' [(dx, .dict (lexF y pb fk (stAV E.1.st) [] E.1.ln)), (dy, .dict (ioF buf (buf.length - E.2.length : Nat)))] ∧ ρ'.lookup (Str.ofString "self") = some (.val (.ref x)) ∧ ρ'.lookup (Str.ofString "raw") = some (.str t)) (X1To.while1 (c := false) ?q1 (fun _ => ⟨_, rfl, by walk_at "lk", by walk_at "lk"⟩) (fun h => by cases h)) ?q3 (by rintro _ _ ⟨_, e, _⟩; cases e) (by rintro _ _ ⟨_, e, _⟩; cases e) (by rintro _ _ _ ⟨_, e, _⟩; cases e)
      case q1 => walk_at "tr"
      case q3 =>
        rintro ρ2 _ ⟨_, e, hself, hraw⟩
        cases e
        walk_at "iF"
        exact ExTo.ret (EvTo.name hraw) BackM.same
theorem next_some {x dx y dy pb fk : Addr} {buf : List Nat} {pos : Nat} {st : Option Nat} {ln : Int} {E : LS × List Nat} {t : List Nat} (hE : rd ⟨st, [], false, 32, ln⟩ (buf.drop pos) = some E) (ht : tokAV E.1 = .str t) (hst : okK st) (hpos : pos ≤ buf.length) (hl : 2 * buf.length + 2 ≤ LIM) :
    CallsM w (d + 5) (LxAt x dx y dy pb fk) (.ref 837) [.val (.ref x)] [] (lexμ dx dy y pb fk buf ⟨st, [], false, 32, ln⟩ pos) (.str t) (lexμ dx dy y pb fk buf { E.1 with tok := [] } (buf.length - E.2.length)) := by
  refine enterM (ρ := [(Str.ofString "self", .val (.ref x))]) (by rfl) (by kernel_rfl) (BindTo.plain (names := [Str.ofString "self"]) (fun vs h => ?_) (by decide) (by decide)) rfl (fun h₀ L ex hI => ?_) rfl rfl rfl (by decide) LxAt.grow
  · (obtain ⟨v, rfl⟩ := ln1 h; rfl)
  · have hx : h₀.get? x = some (instObj 840 dx) := hI.lx
    have hg := gettok_ok (w := w) (d := d) (x := x) (dx := dx) (y := y) (dy := dy) (pb := pb) (fk := fk) hE hst hpos hl
    rw [ht] at hg
    refine' ExTo.then (X1To.assignM (MvTo.meth0 (pre := []) (List.Mem.head _) (by rfl) (EvTo.name (by walk_at "lk")) hx c840 m_gettok hg hI LxAt.grow rfl)) ?_
    show ExTo w _ _ [(dx, .dict (lexF y pb fk (stAV E.1.st) [] E.1.ln)), (dy, .dict (ioF buf (buf.length - E.2.length : Nat)))] _ _
    walk_at "iF"
    exact ExTo.ret (EvTo.name (by walk_at "lk")) BackM.same
theorem iter_ok {x : Addr} : CallsTo w (d + 1) (.ref 830) [.val (.ref x)] (.val (.ref x)) := by
  refine enter [Str.ofString "self"] (by rfl) (by kernel_rfl) (fun vs h => ?_) (by decide) (by decide) (fun h₀ L ex => ?_) rfl rfl rfl (by decide)
  · (obtain ⟨v, rfl⟩ := ln1 h; rfl)
  · exact ExTo.ret (EvTo.name (by walk_at "lk")) Back.same
end
end
section
section
variable {w : World} {C : Fc} {ρ : Rho} {μ pre post : Mu} {P : Out → Prop} {x K dx : Addr} {fs fs' fs2 : Rho} {d : Nat}
theorem X1To.setattrM {o value : PySem.Expr} {attr : Str} {p' pos : Pos} {av : AV} {μ : Mu} (hfs : ∀ y, fs'.lookup y = if y = attr then some av else fs.lookup y) (hv : MvTo w C ρ μ (eval value C.env) av (pre ++ (dx, MO.dict fs) :: post)) (ho : EvTo w C ρ (pre ++ (dx, MO.dict fs) :: post) o (.val (.ref x))) (hI : C.h₀.get? x = some (instObj K dx)) (hc : ClsOk w K) (ht : takerIn (KF w) K attr = some none)
    (hlen : fs.length ≤ 1000) (hs : swapsWith value (some (.Attribute o attr p')) pos.line C.env = pure false := by rfl) :
    X1To w C ρ μ (.Assign [.Attribute o attr p'] value pos) (· = .next ρ (pre ++ (dx, MO.dict fs') :: post)) :=
  fun A s Q E hr h1 R hQ => plainObj_wpAny_Assign_Attribute (hv A s _ _ hr h1 R fun v h' tk h1' R' kv => ho A _ _ _ hr h1' R' fun ov h2 tk2 h12 g2 ko => by
    obtain rfl := vr_val ko
    have R2 := R'.grow g2
    obtain ⟨m, hns, hf, hq⟩ := R2.mus (dx, MO.dict fs) (by simp)
    refine tok1 h12 (set_ns ((R2.ok.base.grow R2.keep).kin) (R2.keep _ _ hI) hns hc ht (within_of hq) (by simpa using hlen) fun h3 tk3 hn3 hs3 => fun h13 => ?_)
    exact hQ _ _ h3 tk3 h13 rfl ⟨rfl, dict_put R2 hs3 hn3 hf hq (kv.grow g2) hfs⟩) hs
theorem m_trans : MFn w 705 482 (Str.ofString "_StringIO__translated") := ⟨by kernel_rfl, by kernel_rfl, by kernel_rfl⟩
theorem trans_ok {y dy : Addr} {buf : List Nat} {fs : Rho} (hnl : fs.lookup (Str.ofString "_StringIO__newline") = some (.str [10])) : CallsM w (d + 1) (IoAt y dy) (.ref 482) [.val (.ref y), .str buf] [] [(dy, .dict fs)] (.str buf) [(dy, .dict fs)] := by
  refine enterM (ρ := [(Str.ofString "self", .val (.ref y)), (Str.ofString "s", .str buf)]) (by rfl) (by kernel_rfl) (BindTo.plain (names := [Str.ofString "self", Str.ofString "s"]) (fun vs h => ?_) (by decide) (by decide)) rfl (fun h₀ L ex hI => ?_) rfl rfl rfl (by decide) IoAt.grow
  · (obtain ⟨v, u, rfl⟩ := ln2 h; rfl)
  · refine' ExTo.then (X1To.assign (av := .str [10]) (EvTo.attr (List.Mem.head _) hnl (EvTo.name (by walk_at "lk")) hI c705 f705_nl)) ?_
    walk_at "iF"
    walk_at "iF"
    walk_at "st"
    exact BackM.same
theorem BindTo.peekD {fd : FuncData} {args dargs : List AV} {kw : List (Str × Value)} {names : List Str} (h : ∀ vs : List Value, vs.length = args.length → ∃ dvs, (∀ S, W.peek (KF w) S (bindArgs fd ⟨vs, kw⟩) = some (names.zip (vs ++ dvs))) ∧ ∀ F, VRs F dargs dvs) (hnd : names.Nodup) (hloc : ∀ x ∈ names, fd.scope.names.lookup x = some .local) : BindTo w fd args kw (names.zip (args ++ dargs)) :=
  BindTo.peek fun vs hl => by
    obtain ⟨dvs, e, hd⟩ := h vs hl
    exact ⟨names.zip (vs ++ dvs), e, fun F hvs x av e => by
      obtain ⟨v, hv, k⟩ := zip_vrs (names := names) (hvs.append (hd F)) x av e
      exact ⟨v, (zip_reverse_lookup hnd x).trans hv, k⟩, fun y hy => hloc _ (List.of_mem_zip hy).1⟩
theorem ioinit_ok {y dy : Addr} {buf : List Nat} : CallsM w (d + 2) (IoAt y dy) (.ref 475) [.val (.ref y), .str buf] [] [(dy, .dict [])] .none [(dy, .dict (ioF buf 0))] := by
  refine enterM (ρ := [(Str.ofString "self", .val (.ref y)), (Str.ofString "initial_value", .str buf), (Str.ofString "newline", .str [10])]) (by rfl) (by kernel_rfl) (BindTo.peekD (args := [.val (.ref y), .str buf]) (dargs := [.str [10]]) (names := [Str.ofString "self", Str.ofString "initial_value", Str.ofString "newline"]) (fun vs h => ?_) (by decide) (by decide)) rfl (fun h₀ L ex hI => ?_) rfl rfl rfl (by decide) IoAt.grow
  · match vs, h with
    | [v, u], _ =>
      exact ⟨[.str (mk [10]) _], fun S => rfl, fun F => VRs.cons (vr_str' (Nat.le_of_ble_eq_true rfl)) VRs.nil⟩
  · have hI' : h₀.get? y = some (instObj 705 dy) := hI
    refine' ExTo.iff ?q1 (fun h => ?q2) (fun _ => ?_)
    case q1 => exact TrTo.boolop (ATo.and (TrTo.cmp (a := .str [10]) (EvTo.name (by walk_at "lk")) EvTo.cnone op_isnn) fun _ => ATo.and (TrTo.cmp (EvTo.call (EvTo.blt n_type boot_type) (ArgsTo.cons (EvTo.name (by walk_at "lk")) ArgsTo.nil) call_typeof cal_t) (EvTo.blt n_str boot_str) (op_isnotT (U := ""))) fun _ => ATo.andNil)
    case q2 => cases h
    walk_at "app"
    walk_at "iF"
    refine' ExTo.iff ?q1 (fun h => ?q2) (fun _ => ?_)
    case q1 => exact TrTo.boolop (ATo.and (TrTo.cmp (a := .str buf) (EvTo.name (by walk_at "lk")) EvTo.cnone op_isnn) fun _ => ATo.and (TrTo.cmp (EvTo.call (EvTo.blt n_type boot_type) (ArgsTo.cons (EvTo.name (by walk_at "lk")) ArgsTo.nil) call_typeof cal_t) (EvTo.blt n_str boot_str) (op_isnotT (U := ""))) fun _ => ATo.andNil)
    case q2 => cases h
    walk_at "app"
    refine' ExTo.then (X1To.setattr (pre := []) (put_lookup _ _ _) (EvTo.name (by walk_at "lk")) (EvTo.name (by walk_at "lk")) hI' c705 (taker_of f705_nl) (Nat.le_of_ble_eq_true rfl)) ?_
    refine' ExTo.then (X1To.setattr (pre := []) (put_lookup _ _ _) EvTo.cstr (EvTo.name (by walk_at "lk")) hI' c705 (taker_of f705_buf) (Nat.le_of_ble_eq_true rfl)) ?_
    refine' ExTo.then (X1To.setattr (pre := []) (put_lookup _ _ _) EvTo.cint (EvTo.name (by walk_at "lk")) hI' c705 (taker_of f705_pos) (Nat.le_of_ble_eq_true rfl)) ?_
    refine' ExTo.iff ?q1 (fun _ => ?_) (fun h => ?q2)
    case q1 => exact TrTo.cmp (a := .str buf) (EvTo.name (by walk_at "lk")) EvTo.cnone op_isnn
    case q2 => cases h
    walk_at "app"
    refine' ExTo.then (X1To.setattrM (pre := []) (post := []) (fs' := ioF buf 0) ?q1 (MvTo.meth1 (pre := []) (List.Mem.head _) (by rfl) (EvTo.name (by walk_at "lk")) (ArgsTo.cons (EvTo.name (by walk_at "lk")) ArgsTo.nil) hI' c705 m_trans (trans_ok (by rfl)) hI IoAt.grow rfl) (EvTo.name (by walk_at "lk")) hI' c705 (taker_of f705_buf) (Nat.le_of_ble_eq_true rfl)) ?_
    case q1 =>
      intro z
      rw [put_lookup, put_lookup, put_lookup]
      unfold ioF
      rw [lk_cons, lk_cons, lk_cons]
      by_cases h1 : z = Str.ofString "_StringIO__pos"
      · subst h1; rw [if_pos rfl, if_neg (by decide), if_pos rfl]
      rw [if_neg h1]
      by_cases h2 : z = Str.ofString "_StringIO__buf"
      · subst h2; rw [if_pos rfl, if_pos rfl]
      rw [if_neg h2, if_neg h2, if_neg h1, if_neg h2]
    exact ExTo.nil ⟨rfl, rfl⟩
end
end
section
section
variable {w : World} {C : Fc} {ρ : Rho} {μ : Mu} {d : Nat}
theorem Room.in1 {A : Around} (h : Room (d + 1) A) : Room d A.in1 :=
  ⟨⟨by have := h.1.1; show A.depth + d + 120 < recursionLimit; (first | lia | omega), h.1.2⟩, by have := h.2.1; show A.units + 1 + 10 * d + 100 < cLine; (first | lia | omega), h.2.2⟩
theorem bind_new (c v : Value) {name qual : Str} {body : List Stmt} {scope : Scope} {dV kV doc pm cdv ct : Value} {an : Option Addr} (p1 p2 p3 : Pos) (hd : dV = .none) (hk : kV = .none) :
    bindArgs (fnOf name qual { posonlyargs := [{ arg := Str.ofString "cls", annotation := none, pos := p1 }], args := [], vararg := some { arg := Str.ofString "args", annotation := none, pos := p2 }, kwonlyargs := [], kw_defaults := [], kwarg := some { arg := Str.ofString "kwargs", annotation := none, pos := p3 }, defaults := [] } body scope dV kV doc pm an cdv ct) ⟨[c, v], []⟩
      = (do let t ← newTuple [v]; let d ← newDict; return [(Str.ofString "cls", c), (Str.ofString "args", t), (Str.ofString "kwargs", d)]) := by
  subst hd hk
  rfl
theorem BindTo.newIo {c : Value} {a : AV} {name qual : Str} {body : List Stmt} {scope : Scope} {dV kV doc pm cdv ct : Value} {an : Option Addr} {p1 p2 p3 : Pos} (hd : dV = .none) (hk : kV = .none)
    (h1 : scope.names.lookup (Str.ofString "cls") = some .local) (h2 : scope.names.lookup (Str.ofString "args") = some .local) (h3 : scope.names.lookup (Str.ofString "kwargs") = some .local) :
    BindTo w (fnOf name qual { posonlyargs := [{ arg := Str.ofString "cls", annotation := none, pos := p1 }], args := [], vararg := some { arg := Str.ofString "args", annotation := none, pos := p2 }, kwonlyargs := [], kw_defaults := [], kwarg := some { arg := Str.ofString "kwargs", annotation := none, pos := p3 }, defaults := [] } body scope dV kV doc pm an cdv ct)
      [.val c, a] [] [(Str.ofString "cls", .val c)] := by
  intro A s ex vs Q E B hex hvs hQ
  obtain ⟨u, v, rfl, k1, k2⟩ := vrs2 hvs
  obtain rfl := vr_val k1
  rw [bind_new _ _ _ _ _ hd hk]
  refine wpAny_bind (wpAny_newObj_type (wpAny_bind (wpAny_newObj_type ?_)))
  refine wpAny_pure (hQ _ _ s.toks ((Grow.push _ _).trans (Grow.push _ _)) (fun z av e => ?_) fun z hz => ?_)
  · rw [lk_cons] at e
    by_cases q : z = Str.ofString "cls"
    · subst q
      rw [if_pos rfl] at e; cases e
      exact ⟨u, rfl, vr_val'⟩
    · rw [if_neg q] at e; cases e
  · simp only [List.mem_cons, List.not_mem_nil, or_false] at hz
    rcases hz with rfl | rfl | rfl
    · exact h1
    · exact h2
    · exact h3
theorem g_bytesio : nsIn (KF w) mainGlobals (Str.ofString "BytesIO") = some (some (.ref 458)) := by kernel_rfl
theorem g_stringio : nsIn (KF w) mainGlobals (Str.ofString "StringIO") = some (some (.ref 705)) := by kernel_rfl
theorem g_deque : nsIn (KF w) mainGlobals (Str.ofString "deque") = some (some (.type "collections.deque")) := by kernel_rfl
theorem n_object : nsIn (KF w) mainGlobals (Str.ofString "object") = some Option.none := by kernel_rfl
theorem boot_object : bootBuiltins (Str.ofString "object") = some (.type "object") := by decide +kernel
theorem cls_obj (a : Addr) (h : ((KF w).lookup a).any (fun o => o.cls != .type "tuple") = true) : ∃ o, (KF w).lookup a = some o ∧ o.cls ≠ .type "tuple" := by
  obtain ⟨o, e, h⟩ := any_some h
  exact ⟨o, e, by simpa using h⟩
theorem op_isnot_other : Op2 w C ρ μ (compareOp .IsNot) (.val (.ref 705)) (.val (.ref 458)) (.bool true) :=
  fun A s Q E u v _ _ R hu hv hQ => by
    obtain rfl := vr_val hu
    obtain rfl := vr_val hv
    obtain ⟨o1, e1, h1⟩ := cls_obj (w := w) 705 (by kernel_rfl)
    obtain ⟨o2, e2, h2⟩ := cls_obj (w := w) 458 (by kernel_rfl)
    have X := (R.ok.base.grow R.keep).kin
    exact wpAny_isNot_ref_other (by decide) (X _ _ e1) (X _ _ e2) h1 (hQ _ s.heap s.toks (Grow.refl _) vr_bool')
theorem op_isnot_same {a : Addr} : Op2 w C ρ μ (compareOp .IsNot) (.val (.ref a)) (.val (.ref a)) (.bool false) :=
  fun A s Q E u v _ _ R hu hv hQ => by
    obtain rfl := vr_val hu
    obtain rfl := vr_val hv
    exact wpAny_isNot_ref_self (hQ _ s.heap s.toks (Grow.refl _) vr_bool')
theorem obj_findNew : findCls (KF w) (.type "object") (.type "type") (Str.ofString "__new__") = some (.val (.builtin "object.__new__")) := by kernel_rfl
theorem meth_objNew {A : Around} {s : Shared} {E : Value → Shared → Prop} {pl : Sem Bool} {Q : Value × List Value → Shared → Prop} (X : (KF w).In s.heap) (h : Q (.builtin "object.__new__", []) { s with toks := s.toks + 1 }) : wpAny (model PR w) A (getMethod (.type "object") (Str.ofString "__new__") pl) Q E s := by
  have ht : typeOf (.type "object") = pure (.type "type") := by kernel_rfl
  have hs : Manifest.isStub "object" = false := by decide +kernel
  have hstub : opaqueClassAbove (.type "object") = pure none := by unfold opaqueClassAbove; dsimp only; rw [hs]; rfl
  have L0 : Looks (model PR w) s.heap (typeOf (.type "object")) (.type "type") := Looks.of_pure ht
  have hg : findIn (KF w) (.type "type") "__getattribute__" = some (some (.builtin "type.__getattribute__")) := type_tga
  unfold getMethod specialOf
  refine wpAny_bind (wpAny_bind (L0.here ((looks_findIn X hg).here ?_)))
  dsimp only
  rw [if_pos canon_tga]
  refine wpAny_bind (wpAny_mono (Q := fun v => Q (v, [])) (E := E) ?_ (fun _ _ z => wpAny_pure z) fun _ _ z => z)
  have LO : Looks (model PR w) s.heap (opaqueClassAbove (.type "object")) none := Looks.of_pure hstub
  refine cls_open X LO L0 hg (looks_hook X (r := none) (by rfl)) (by show subIn (KF w) _ _ = _; rfl) obj_findNew ?_
  refine wpAny_pure ?_
  show wpAny _ _ (handedOut _) _ _ _
  rw [handedOut_of (by decide +kernel)]
  exact wpAny_pure h
noncomputable def retV : Flow → Value
  | .ret v => v
  | _ => .none
theorem ionew_code {A : Around} {s : Shared} {ex : List Addr} {v : Value} {buf : List Nat} {R : Result → Shared → Prop} (hroom : Room (d + 2) A) (h1 : 1 ≤ s.toks) (B : Base w s.heap) (hex : ∀ a ∈ ex, ∃ o, s.heap.get? a = some o) (hv : VR (fz ex s.heap) (.str buf) v)
    (hQ : ∀ y h' tk, 1 ≤ tk → Grow s.heap h' → s.heap.get? y = none → s.heap.get? (y + 1) = none → h'.get? (y + 1) = some (instObj 705 y) → h'.get? y = some emptyDict → R (.ok (.ret (.ref (y + 1)))) { s with heap := h', toks := tk }) :
    codeAny (model PR w) A (.call (.ref 198) ⟨[.ref 705, v], []⟩) R s := by
  refine' enterA (PP := fun _ => True) (d := d + 1) (μ₀ := []) (args := [.val (.ref 705), .str buf]) (by rfl) (by kernel_rfl) ?hb rfl rfl rfl (by decide) (fun _ _ _ _ => trivial) hroom h1 ⟨B.grow hideAll_nil, trivial, hex, (fun a ha => by cases ha), List.nodup_nil, (fun a ha => by cases ha), VRs.cons vr_val' (VRs.cons hv VRs.nil)⟩ ?_
  case hb => exact BindTo.newIo rfl rfl rfl rfl rfl
  rintro h₀ L ex' A' hA' _ hgr hexs hsL hL0 hr' s' E ⟨h1, tk1, rfl, g1⟩ h1' R' hE
  have g0 : Grow s.heap h₀ := fun b o e => hgr b o (hideAll_nil _ _ e)
  refine' ExA.iff (A := A') (c := true && (false && true)) (PH := fun fl h' => ∀ tk, 1 ≤ tk → R (.ok (.ret (retV fl))) { s with heap := h', toks := tk }) ?q1 (fun h => by cases h) (fun _ => ?_) _ _ E hr' h1' R' (fun fl h' tk h1 p => by cases fl <;> exact p tk h1)
  case q1 =>
    refine' TrTo.boolop (ATo.and ?r1 fun _ => ATo.and ?r2 fun _ => ATo.andNil)
    case r1 => exact TrTo.cmp (EvTo.name (by walk_at "lk")) (EvTo.glob g_bytesio) op_isnot_other
    case r2 => exact TrTo.cmp (EvTo.name (by walk_at "lk")) (EvTo.glob g_stringio) op_isnot_same
  walk_at "app"
  intro s2 Q2 E2 hr2 h12 R2 hQ2
  refine wpAny_execs_cons (wpAny_Return_some (MethodCall_ (EvTo.blt n_object boot_object (hx := by rfl) (hn := by decide) (hd := by decide) A' s2 _ _ hr2 h12 R2 fun v2 h3 tk3 h13 g3 k3 => ?_)))
  obtain rfl := vr_val k3
  have R3 := R2.grow g3
  have X3 := (R3.ok.base.grow R3.keep).kin
  refine meth_objNew X3 (callWith_method1 (wpAny_items_cons (EvTo.name (av := .val (.ref 705)) (by walk_at "lk") (hk := by rfl) (hd := by decide) A' _ _ _ hr2 (Nat.le_succ_of_le h13) R3 fun v4 h4 tk4 h14 g4 k4 => wpAny_items_nil ?_) rfl) rfl rfl)
  obtain rfl := vr_val k4
  have R4 := R3.grow g4
  have X4 := (R4.ok.base.grow R4.keep).kin
  refine wpAny_call (new_io X4 ?_)
  have g04 : Grow s.heap h4 := g0.trans R4.keep
  have gp : Grow h4 ((h4.push emptyDict).push (instObj 705 h4.objs.size)) := (Grow.push _ _).trans (Grow.push _ _)
  refine hQ2 _ _ tk4 h14 fun tk htk => hQ h4.objs.size _ tk htk (g04.trans gp) (size_none g04) ?_ ?_ ?_
  · cases q : s.heap.get? (h4.objs.size + 1) with
    | none => rfl
    | some o => exact absurd (Heap.lt_size (g04 _ _ q)) (Nat.not_lt_of_le (Nat.le_succ _))
  · exact Heap.get?_push_at (Heap.size_push ..).symm rfl
  · exact Heap.get?_push_of_some _ (Heap.get?_push_size _ rfl)
end
end
section
section
variable {w : World} {C : Fc} {ρ : Rho} {μ : Mu} {d : Nat}
theorem io_findNew : findCls (KF w) (.ref 705) (.type "type") (Str.ofString "__new__") = some (.get (.builtin "staticmethod.__get__") (.ref 202) .none (.ref 705)) := by kernel_rfl
theorem rec202 : ∃ rest, recIn (KF w) 202 "staticmethod" = some (.ref 198 :: rest) := by
  have h : (recIn (KF w) 202 "staticmethod").bind (·[0]?) = some (.ref 198) := by kernel_rfl
  cases q : recIn (KF w) 202 "staticmethod" with
  | none => rw [q] at h; cases h
  | some l => cases l with
    | nil => rw [q] at h; cases h
    | cons a r => rw [q] at h; cases h; exact ⟨r, rfl⟩
theorem io_reads : readsIn (KF w) 705 (.type "type") = true := by kernel_rfl
theorem io_getNew {A : Around} {s : Shared} {E : Value → Shared → Prop} {Q : Value → Shared → Prop} (X : (KF w).In s.heap) (h : Q (.ref 198) { s with toks := s.toks + 1 }) : wpAny (model PR w) A (getAttr (.ref 705) (Str.ofString "__new__")) Q E s := by
  obtain ⟨rest, hr⟩ := rec202 (w := w)
  exact cls_bind X io_reads io_findNew (wpAny_call (sm_get (s := { s with toks := s.toks + 1 }) X hr (handed_on rfl h)))
theorem io_init : findIn (KF w) (.ref 705) "__init__" = some (some (.ref 475)) := by kernel_rfl
theorem io_initT : typeIn (KF w) (.ref 475) = some (.type "function") := by kernel_rfl
theorem Room.tc {A : Around} {C : Addr} {rest : List Value} {kw : List (Str × Value)} (h : Room (d + 1) A) : Room d (A.under (.builtin "type.__call__" ⟨.ref C :: rest, kw⟩)) := by
  have e1 : (Code.builtin "type.__call__" ⟨.ref C :: rest, kw⟩).weight = 1 := by first | rfl | (simp [Code.weight]; done) | kernel_rfl
  have e2 : (Code.builtin "type.__call__" ⟨.ref C :: rest, kw⟩).cUnits = 1 := by rfl
  have e3 : (Code.builtin "type.__call__" ⟨.ref C :: rest, kw⟩).envs = [] := by rfl
  refine ⟨⟨?_, ?_⟩, ?_, h.2.2⟩
  · have := h.1.1
    show A.depth + (Code.builtin "type.__call__" ⟨.ref C :: rest, kw⟩).weight + d + 120 < recursionLimit
    rw [e1]; (first | lia | omega)
  · obtain ⟨env, l, hf, z⟩ := h.1.2
    exact ⟨env, l, by show pushEnvs (Code.builtin "type.__call__" ⟨.ref C :: rest, kw⟩).envs A.frames = _; rw [e3]; exact hf, z⟩
  · have := h.2.1
    show A.units + (Code.builtin "type.__call__" ⟨.ref C :: rest, kw⟩).cUnits + 10 * d + 100 < cLine
    rw [e2]; (first | lia | omega)
theorem make_io {A : Around} {s : Shared} {ex : List Addr} {v : Value} {buf : List Nat} {R : Result → Shared → Prop} (hroom : Room (d + 5) A) (h1 : 1 ≤ s.toks) (B : Base w s.heap) (hex : ∀ a ∈ ex, ∃ o, s.heap.get? a = some o) (hv : VR (fz ex s.heap) (.str buf) v)
    (hQ : ∀ y dy h' tk, 1 ≤ tk → Grow s.heap h' → s.heap.get? dy = none → s.heap.get? y = none → dy ≠ y → h'.get? y = some (instObj 705 dy) → MRel (fz (dy :: ex) h') h' dy (.dict (ioF buf 0)) → R (.ok (.ret (.ref y))) { s with heap := h', toks := tk }) :
    codeAny (model PR w) A (.call (.ref 705) ⟨[v], []⟩) R s := by
  have X := B.kin
  obtain ⟨oc, od, cd, sl, hC0, e1, e2, e4⟩ := io_cls (w := w)
  have hC := X _ _ hC0
  have call := io_call X
  have typ := io_typ X
  have made := io_made X
  refine codeAny_of_tree ?_
  show wpAny _ _ (callAny (.ref 705) _) _ _ _
  refine nd_load hC ?_
  show wpAny _ _ (callAny.viaDunder (.ref 705) _) _ _ _
  unfold callAny.viaDunder
  refine wpAny_bind (call.here ?_)
  dsimp only
  rw [tc_bind]
  refine wpAny_bind (wpAny_pure (wpAny_bind (wpAny_pure ?_)))
  refine wpAny_pure (a := Fin.again (.call (.builtin "type.__call__") ⟨.ref 705 :: [v], []⟩)) (And.intro rfl ?_)
  refine codeAny_call_builtin_at (Code.quiet_builtin _ (by decide +kernel)) entry_typeCall (check_slot tc_kind tc_split typ (tc_args _ _ _) ?_)
  have hr1 := hroom.tc (C := 705) (rest := [v]) (kw := [])
  generalize A.under (.builtin "type.__call__" ⟨.ref 705 :: [v], []⟩) = A1 at hr1 ⊢
  unfold Builtin.«type.__call__»
  have hm : Looks (model PR w) s.heap (mroOf (.ref 705)) cd.mro := ((Looks.ld (part := none) hC).andThen .now).andThen .now
  obtain ⟨hh, g, dd, t, os⟩ := s
  repeat (first | simp only [e4, Bool.false_eq_true, if_false] | (with_reducible refine io_getNew (by assumption) ?_) | with_reducible refine wpAny_call ?_ | lk)
  refine ionew_code (d := d + 2) (ex := ex) hr1 (Nat.le_succ_of_le h1) B hex hv fun y h2 tk2 h12 g2 n1 n2 e1' e2' => ?_
  have B2 := B.grow g2
  have hself := looks_mroIn (M := model PR w) B2.kin (C := 705) (base := .ref 705) (r := true) (by kernel_rfl)
  have I2 : InstAt h2 (y + 1) (instObj 705 y) 705 (some emptyDict) := inst_at e1' e2'
  have hisi : Looks (model PR w) h2 (isInstance (.ref (y + 1)) (.ref 705)) true := I2.type.andThen hself
  have hne : y ≠ y + 1 := Nat.ne_of_lt (Nat.lt_succ_self _)
  refine wpAny_bind (hisi.here ?_)
  refine wpAny_bind (wpAny_holding (special_fn (s := { heap := h2, gens := g, drawn := dd, toks := tk2, os := os }) B2.kin I2 io_init io_initT (wpAny_call ?_)))
  have hal : ∀ a ∈ y :: ex, ∃ o, h2.get? a = some o := fun a ha => by
    rcases List.mem_cons.mp ha with rfl | ha
    · exact ⟨_, e2'⟩
    · obtain ⟨o, e⟩ := hex a ha; exact ⟨o, g2 _ _ e⟩
  have hno : hh.get? y = none := n1
  have ghide : Grow hh (hideAll h2 [y]) := fun b o e => hideAll_get _ (g2 _ _ e) fun q => by rw [List.mem_singleton] at q; subst q; rw [hno] at e; cases e
  have hns0 : h2.Ns1 y (fun _ => none) := Heap.Ns1.of_empty ⟨_, #[], _, e2', rfl, (fun e he => absurd he (by simp)), fun _ => rfl⟩
  refine ioinit_ok (d := d + 2) (y := y + 1) (dy := y) (buf := buf) _ _ (y :: ex) [.ref (y + 1), v] _ hr1 h12 ⟨B.grow ghide, ?_, hal, ?_, ?_, ?_, VRs.cons vr_val' (VRs.cons ?_ VRs.nil)⟩ fun v3 h3 tk3 h13 S => ?_
  · exact hideAll_get _ e1' fun q => hne (List.mem_singleton.mp q).symm
  · intro p hp
    rw [List.mem_singleton] at hp; subst hp
    exact List.mem_cons_self
  · exact List.nodup_cons.mpr ⟨List.not_mem_nil, List.nodup_nil⟩
  · intro p hp
    rw [List.mem_singleton] at hp; subst hp
    exact ⟨_, hns0, (fun _ _ e => by cases e), fun _ _ => rfl⟩
  · exact VR.more hv hno g2
  · obtain rfl := vr_none S.res
    refine wpAny_pure ?_
    show R (.ok (.ret (.ref (y + 1)))) _
    have gk : Grow hh h3 := fun b o e => S.keep b o (ghide b o e)
    refine hQ (y + 1) y h3 tk3 h13 gk hno n2 hne ?_ ?_
    · exact S.keep _ _ (hideAll_get _ e1' fun q => hne (List.mem_singleton.mp q).symm)
    · exact S.mus (y, _) (List.mem_singleton.mpr rfl)
end
end
section
section
variable {w : World} {A : Around} {C : Fc} {ρ : Rho} {μ pre post : Mu} {PH : Flow → Heap → Prop} {x K dx : Addr} {fs : Rho}
theorem keep705 : keepIn (KF w) (.ref 705) = true := by kernel_rfl
theorem ExA.newio {z : Str} {p' p np cp : Pos} {e : PySem.Expr} {rest : List Stmt} {buf : List Nat} {dd : Nat} (hd : C.d = dd + 5) (hf : EvTo w C ρ μ (.Name (Str.ofString "StringIO") np) (.val (.ref 705))) (he : EvTo w C ρ μ e (.str buf))
    (k : ∀ h₀' y dy, Grow C.h₀ h₀' → h₀'.get? y = some (instObj 705 dy) → ExA w A { C with h₀ := h₀' } (put ρ z (.val (.ref y))) ((dy, .dict (ioF buf 0)) :: μ) rest PH)
    (hk : C.env.kindOf z = some .local := by rfl) (hs : swapsWith (.Call (.Name (Str.ofString "StringIO") np) [e] [] cp) (some (.Name z p')) p.line C.env = pure false := by rfl)
    (hst : starEach [e] C.env = (false, eval e C.env) :: starEach [] C.env := by rfl) : ExA w A C ρ μ (.Assign [.Name z p'] (.Call (.Name (Str.ofString "StringIO") np) [e] [] cp) p :: rest) PH :=
  fun s Q E hr h1 R hQ => wpAny_execs_cons (wpAny_Assign_Name (by
    show wpAny _ _ (do callWith cp (← eval (.Name (Str.ofString "StringIO") np) C.env) [] (backTo cp (starEach [e] C.env)) (backToKw cp (keywordEach [] C.env))) _ _ _
    refine wpAny_bind (hf A s _ _ hr h1 R fun v h' tk h1' g kf => ?_)
    rw [vr_val kf]
    have R1 := R.grow g
    refine callWith_K (K := KF w) (h₀ := C.h₀) R.ok.base.kin keep705 ?_ hst rfl
    refine wpAny_items_cons (he A _ _ _ hr h1' R1 fun v2 h2 tk2 h12 g2 k2 => wpAny_items_nil ?_) hst
    have R2 := R1.grow g2
    have B2 := R2.ok.base.grow R2.keep
    refine ⟨B2.kin, wpAny_call (make_io (d := dd) (ex := exs C μ) (hd ▸ hr) h12 B2 R2.alive k2 fun y dy h3 tk3 h13 g3 n1 n2 hne ey hm => ?_)⟩
    have nd : dy ∉ exs C μ := fun q => by obtain ⟨o, z⟩ := R2.alive _ q; rw [n1] at z; cases z
    have ny : y ∉ exs C μ := fun q => by obtain ⟨o, z⟩ := R2.alive _ q; rw [n2] at z; cases z
    have R3 : Rel w C ρ ((dy, .dict (ioF buf 0)) :: μ) h3 := R2.addM n1 g3 hm (by obtain ⟨m, ⟨o, _, _, z, _⟩, _⟩ := hm; exact ⟨o, z⟩)
    have ey' : (C.now ((dy, .dict (ioF buf 0)) :: μ) h3).h₀.get? y = some (instObj 705 dy) := hideAll_get _ ey fun q => by
      have q : y ∈ C.env.locals :: dy :: μ.map (·.1) := q
      rcases List.mem_cons.mp q with q | q
      · exact ny (by rw [show y = C.env.locals from q]; simp [exs, own])
      · rcases List.mem_cons.mp q with q | q
        · exact hne q.symm
        · exact ny (by unfold exs own; exact List.mem_append_left _ (List.mem_cons_of_mem _ q))
    show wpAny _ _ (storeName C.env z (.ref y)) _ _ _
    refine tok1 h13 (store_local (C := C.now ((dy, .dict (ioF buf 0)) :: μ) h3) R3.now (av := .val (.ref y)) vr_val' hk fun h4 tk4 R4 => fun h14 => ?_)
    exact k _ y dy (grow_now R3) ey' _ Q E hr h14 R4 hQ) hs)
theorem ExA.setdq {o : PySem.Expr} {attr : Str} {p' pos np cp : Pos} {rest : List Stmt} (hf : EvTo w C ρ (pre ++ (dx, MO.dict fs) :: post) (.Name (Str.ofString "deque") np) (.val (.type "collections.deque"))) (ho : ∀ h₀', EvTo w { C with h₀ := h₀' } ρ (pre ++ (dx, MO.dict fs) :: post) o (.val (.ref x))) (hI : C.h₀.get? x = some (instObj K dx)) (hc : ClsOk w K) (ht : takerIn (KF w) K attr = some none) (hlen : fs.length ≤ 1000)
    (k : ∀ h₀' q, Grow C.h₀ h₀' → h₀'.get? q = some dqObj → ExA w A { C with h₀ := h₀' } ρ (pre ++ (dx, MO.dict ((attr, .val (.ref q)) :: fs)) :: post) rest PH)
    (hs : swapsWith (.Call (.Name (Str.ofString "deque") np) [] [] cp) (some (.Attribute o attr p')) pos.line C.env = pure false := by rfl) :
    ExA w A C ρ (pre ++ (dx, MO.dict fs) :: post) (.Assign [.Attribute o attr p'] (.Call (.Name (Str.ofString "deque") np) [] [] cp) pos :: rest) PH :=
  fun s Q E hr h1 R hQ => wpAny_execs_cons (plainObj_wpAny_Assign_Attribute (Call_Name0 (hf A s _ _ hr h1 R fun v h' tk h1' g kf => by
    obtain rfl := vr_val kf
    have R1 := R.grow g
    refine PyProof.Rows.callWith_type rfl (evalArgs_nil3 (call_dq fun h2 g2 e2 => ?_))
    have R2 := R1.grow g2
    have nq := new_not R1
    have R2n := R2.now
    refine ho (C.now (pre ++ (dx, MO.dict fs) :: post) h2).h₀ A _ _ _ hr h1' R2n fun ov h3 tk3 h13 g3 ko => ?_
    obtain rfl := vr_val ko
    have R3 := R2n.grow g3
    obtain ⟨m, hns, hf, hq⟩ := R3.mus (dx, MO.dict fs) (by simp)
    have eq' : (C.now (pre ++ (dx, MO.dict fs) :: post) h2).h₀.get? h'.objs.size = some dqObj := hideAll_get _ e2 fun q => nq (by unfold exs; exact List.mem_append_left _ q)
    refine tok1 h13 (set_ns ((R3.ok.base.grow R3.keep).kin) (R3.keep _ _ (grow_now R2 _ _ hI)) hns hc ht (within_of hq) (by simpa using hlen) fun h4 tk4 hn4 hs4 => fun h14 => ?_)
    exact k _ h'.objs.size (grow_now R2) eq' _ Q E hr h14 (dict_put R3 hs4 hn4 hf hq (av := .val (.ref h'.objs.size)) vr_val' (fun z => lk_cons)) hQ)) hs)
end
end
section
noncomputable def lexRg (y pb fk : Addr) (cm : List Nat) (ws : Bool) : Rho := [(Str.ofString "instream", .val (.ref y)), (Str.ofString "posix", .bool true), (Str.ofString "eof", .none), (Str.ofString "commenters", .str cm), (Str.ofString "wordchars", .str WC), (Str.ofString "whitespace", .str (lit " \t\r\n")),
  (Str.ofString "whitespace_split", .bool ws), (Str.ofString "quotes", .str (lit "'\"")), (Str.ofString "escape", .str (lit "\\")), (Str.ofString "escapedquotes", .str (lit "\"")), (Str.ofString "pushback", .val (.ref pb)), (Str.ofString "debug", .int 0), (Str.ofString "filestack", .val (.ref fk)), (Str.ofString "source", .none), (Str.ofString "_punctuation_chars", .str []), (Str.ofString "infile", .none)]
noncomputable def lexG (y pb fk : Addr) (cm : List Nat) (ws : Bool) : Rho := (Str.ofString "state", .str [32]) :: (Str.ofString "token", .str []) :: (Str.ofString "lineno", .int 1) :: lexRg y pb fk cm ws
theorem lexG_done {y pb fk : Addr} : lexG y pb fk [] true = lexF y pb fk (.str [32]) [] 1 := rfl
theorem lexG_ws {y pb fk : Addr} {cm : List Nat} {ws ws' : Bool} (z : Str) : (lexG y pb fk cm ws').lookup z = if z = Str.ofString "whitespace_split" then some (.bool ws') else (lexG y pb fk cm ws).lookup z := by
  by_cases h : z = Str.ofString "whitespace_split"
  · subst h; rfl
  · rw [if_neg h]
    simp only [lexG, lexRg, lk_cons, if_neg h]
theorem lexG_cm {y pb fk : Addr} {cm cm' : List Nat} {ws : Bool} (z : Str) : (lexG y pb fk cm' ws).lookup z = if z = Str.ofString "commenters" then some (.str cm') else (lexG y pb fk cm ws).lookup z := by
  by_cases h : z = Str.ofString "commenters"
  · subst h; rfl
  · rw [if_neg h]
    simp only [lexG, lexRg, lk_cons, if_neg h]
theorem look_none {l : Rho} {z : Str} (h : ¬ ∃ p ∈ l, p.1 = z) : l.lookup z = none := by
  induction l with
  | nil => rfl
  | cons p r ih =>
    obtain ⟨x, v⟩ := p
    rw [lk_cons, if_neg (fun e => h ⟨_, List.mem_cons_self, e.symm⟩)]
    exact ih fun ⟨p, hp, e⟩ => h ⟨p, List.mem_cons_of_mem _ hp, e⟩
theorem look_ext {l1 l2 : Rho} (h1 : ∀ p ∈ l1, l1.lookup p.1 = l2.lookup p.1) (h2 : ∀ p ∈ l2, l1.lookup p.1 = l2.lookup p.1) (z : Str) : l1.lookup z = l2.lookup z := by
  by_cases a : ∃ p ∈ l1, p.1 = z
  · obtain ⟨p, hp, rfl⟩ := a; exact h1 p hp
  · by_cases b : ∃ p ∈ l2, p.1 = z
    · obtain ⟨p, hp, rfl⟩ := b; exact h2 p hp
    · rw [look_none a, look_none b]
theorem MRel.same {F : Addr → Option Obj} {h : Heap} {a : Addr} {fs fs' : Rho} (e : ∀ z, fs'.lookup z = fs.lookup z) (x : MRel F h a (.dict fs)) : MRel F h a (.dict fs') := by
  obtain ⟨m, hn, h1, h2⟩ := x
  exact ⟨m, hn, fun z av k => h1 z av ((e z).symm.trans k), fun z k => h2 z ((e z).symm.trans k)⟩
local macro_rules | `(tactic| walk_at "AF") => `(tactic| (refine' ExA.iff ?q1 (fun h => ?q2) (fun _ => ?_); (case q1 => walk_at "tr"); (case q2 => first | (cases h; done) | (exfalso; simp at h; done)); walk_at "app"))
local macro_rules | `(tactic| walk_at "AT") => `(tactic| (refine' ExA.iff ?q1 (fun _ => ?_) (fun h => ?q2); (case q1 => walk_at "tr"); (case q2 => first | (cases h; done) | (exfalso; simp at h; done)); walk_at "app"))
local macro_rules | `(tactic| walk_at "AS") => `(tactic| (refine' ExA.then (X1To.setattr (pre := [(_, _)]) (fun z => lk_cons) ?q1 ?q2 (by assumption) c840 (taker_of ?q3) (Nat.le_of_ble_eq_true rfl)) ?_; (case q1 => walk_at "ev"); (case q2 => exact EvTo.name (by walk_at "lk")); (case q3 => walk_at "my_f")))
local macro_rules | `(tactic| walk_at "my_con") => `(tactic| first | with_reducible exact call_isi_str)
section
variable {w : World} {d : Nat}
theorem fz_add {h₃ h₀ h' : Heap} {env : Env} {ex ex' : List Addr} {dd : Nat} {dy dx L : Addr} {m0 m1 m2 : MO} (hexs : ∀ a, a ∈ exs ⟨h₀, env, ex', dd⟩ [(dx, m0)] ↔ a = L ∨ a ∈ ex) :
    ∀ a o, fz (exs ⟨h₃, env, ex', dd⟩ [(dy, m1), (dx, m2)]) h' a = some o → fz (dy :: ex) h' a = some o := fun a o e => fz_of (fun q => fz_not e (by
  have hh := hexs a
  simp only [exs, own, List.map_cons, List.map_nil, List.cons_append, List.nil_append, List.mem_cons] at hh ⊢
  rcases List.mem_cons.mp q with q | q
  · exact .inr (.inl q)
  · rcases hh.mpr (.inr q) with z | z | z
    · exact .inl z
    · exact .inr (.inr (.inl z))
    · exact .inr (.inr (.inr z)))) (fz_get e)
theorem val_notNone {a : Addr} : notNone (.val (.ref a)) = true := rfl
theorem lexinit_code {A : Around} {s : Shared} {ex : List Addr} {x dx : Addr} {v : Value} {buf : List Nat} {R : Result → Shared → Prop} (hroom : Room (d + 6) A) (h1 : 1 ≤ s.toks)
    (P : Pre w (fun h => h.get? x = some (instObj 840 dx)) ex [.val (.ref x), .str buf] [.ref x, v] [(dx, .dict [])] s.heap)
    (hQ : ∀ y dy pb fk h' tk, 1 ≤ tk → Grow (hideAll s.heap [dx]) h' → LxAt x dx y dy pb fk h' → s.heap.get? dy = none → dy ≠ dx → MRel (fz (dy :: ex) h') h' dx (.dict (lexG y pb fk (lit "#") false)) → MRel (fz (dy :: ex) h') h' dy (.dict (ioF buf 0)) → R (.ok (.ret .none)) { s with heap := h', toks := tk }) :
    codeAny (model PR w) A (.call (.ref 764) ⟨[.ref x, v], [(Str.ofString "posix", .bool true)]⟩) R s := by
  refine' enterA (d := d + 5) (by rfl) (by kernel_rfl) ?hb rfl rfl rfl (by decide) (fun h h' a g => g _ _ a) hroom h1 P ?_
  case hb =>
    refine BindTo.peekD (args := [.val (.ref x), .str buf]) (dargs := [.none, .bool true, .bool false]) (names := [Str.ofString "self", Str.ofString "instream", Str.ofString "infile", Str.ofString "posix", Str.ofString "punctuation_chars"]) (fun vs h => ?_) (by decide) (by decide)
    match vs, h with
    | [v, u], _ => exact ⟨[.none, .bool true, .bool false], fun S => rfl, fun F => VRs.cons vr_none' (VRs.cons vr_bool' (VRs.cons vr_bool' VRs.nil))⟩
  rintro h₀ L ex' A' hA' hx hgr hexs hsL hL0 hr' s' E ⟨h1, tk1, rfl, g1⟩ h1' R' hE
  refine (?_ : ExA w A' ⟨h₀, _, ex', d + 5⟩ _ [(dx, .dict [])] _ (fun fl h' => ∀ tk, 1 ≤ tk → R (.ok (.ret (retV fl))) { s with heap := h', toks := tk })) _ _ E hr' h1' R' (fun fl h' tk h1 p => by cases fl <;> exact p tk h1)
  walk_at "AT"
  refine' ExA.newio (dd := d) rfl (EvTo.glob g_stringio) (EvTo.name (by walk_at "lk")) fun h₁ y dy g1 hy => ?_
  have hx1 : h₁.get? x = some (instObj 840 dx) := g1 _ _ hx
  walk_at "AT"
  walk_at "AS"
  walk_at "AS"
  walk_at "AS"
  walk_at "AT"
  walk_at "AS"
  walk_at "AS"
  walk_at "AS"
  refine' ExA.iff (c := true) ?q1 (fun _ => ?_) (fun h => by cases h)
  case q1 =>
    refine' TrTo.value ?q1 op_truthb
    refine' EvTo.attr (K := 840) (List.Mem.tail _ (List.Mem.head _)) ?l (EvTo.name (by walk_at "lk")) hx1 c840 f_posix (hh := ?hh)
    case l => rfl
    case hh => rfl
  walk_at "app"
  refine' ExA.then (X1To.augattr (pre := [(_, _)]) (fun z => lk_cons) (by rfl) EvTo.cstr (op_iadds (by decide)) (EvTo.name (by walk_at "lk")) hx1 c840 (taker_of f_wordchars) f_wordchars (Nat.le_of_ble_eq_true rfl)) ?_
  walk_at "AS"
  walk_at "AS"
  walk_at "AS"
  walk_at "AS"
  walk_at "AS"
  walk_at "AS"
  refine' ExA.setdq (pre := [(_, _)]) (EvTo.glob g_deque) (fun h₀' => EvTo.name (by walk_at "lk")) hx1 c840 (taker_of f_pushback) (Nat.le_of_ble_eq_true rfl) fun h₂ pb g2 hpb => ?_
  have hx2 : h₂.get? x = some (instObj 840 dx) := g2 _ _ hx1
  walk_at "AS"
  walk_at "AS"
  walk_at "AS"
  refine' ExA.setdq (pre := [(_, _)]) (EvTo.glob g_deque) (fun h₀' => EvTo.name (by walk_at "lk")) hx2 c840 (taker_of f_filestack) (Nat.le_of_ble_eq_true rfl) fun h₃ fk g3 hfk => ?_
  have hx3 : h₃.get? x = some (instObj 840 dx) := g3 _ _ hx2
  walk_at "AS"
  walk_at "AT"
  refine' ExA.then (X1To.assign EvTo.cstr) ?_
  walk_at "AS"
  walk_at "AF"
  refine ExA.nil fun h' R2 tk htk => ?_
  have keep : Grow h₃ h' := R2.keep
  have mdx := R2.mus _ (List.Mem.tail _ (List.Mem.head _))
  have mdy := R2.mus _ (List.Mem.head _)
  have ndx : dy ≠ dx := fun q => by
    have := R2.nd
    subst q
    simp [own] at this
  have g03 : Grow h₀ h₃ := (g1.trans g2).trans g3
  have ndy : h₃.get? dy = none := R2.new dy (by simp [own])
  refine hQ y dy pb fk h' tk htk (hgr.trans (g03.trans keep)) ⟨keep _ _ hx3, keep _ _ (g3 _ _ (g2 _ _ hy)), keep _ _ (g3 _ _ hpb), keep _ _ hfk⟩ ?_ ndx (MRel.same ?_ (MRel.keep (fz_add hexs) (fun _ e => e) mdx)) (MRel.keep (fz_add hexs) (fun _ e => e) mdy)
  · cases q : s.heap.get? dy with
    | none => rfl
    | some o =>
      have := g03 _ _ (hgr _ _ (hideAll_get _ q (fun z => ndx (List.mem_singleton.mp z))))
      rw [ndy] at this; cases this
  · refine look_ext ?_ ?_
    all_goals repeat (first | exact List.forall_mem_nil _ | refine List.forall_mem_cons.mpr ⟨rfl, ?_⟩)
end
end
section
section
variable {w : World} {d : Nat}
theorem m840 : makesIn (KF w) 840 = true := by kernel_rfl
theorem i840 : findIn (KF w) (.ref 840) "__init__" = some (some (.ref 764)) := by kernel_rfl
theorem t764 : typeIn (KF w) (.ref 764) = some (.type "function") := by kernel_rfl
theorem keep840 : keepIn (KF w) (.ref 840) = true := by kernel_rfl
theorem g_shlex : nsIn (KF w) mainGlobals (Str.ofString "shlex") = some (some (.ref 840)) := by kernel_rfl
theorem make_lex {A : Around} {s : Shared} {ex : List Addr} {v : Value} {buf : List Nat} {R : Result → Shared → Prop} (hroom : Room (d + 7) A) (h1 : 1 ≤ s.toks) (B : Base w s.heap) (hex : ∀ a ∈ ex, ∃ o, s.heap.get? a = some o) (hv : VR (fz ex s.heap) (.str buf) v)
    (hQ : ∀ x dx y dy pb fk h' tk, 1 ≤ tk → Grow s.heap h' → LxAt x dx y dy pb fk h' → s.heap.get? dx = none → s.heap.get? dy = none → dy ≠ dx → MRel (fz (dy :: dx :: ex) h') h' dx (.dict (lexG y pb fk (lit "#") false)) → MRel (fz (dy :: dx :: ex) h') h' dy (.dict (ioF buf 0)) → R (.ok (.ret (.ref x))) { s with heap := h', toks := tk }) :
    codeAny (model PR w) A (.call (.ref 840) ⟨[v], [(Str.ofString "posix", .bool true)]⟩) R s := by
  obtain ⟨hh, g, dd, t, os⟩ := s
  have X : (KF w).In hh := B.kin
  refine make_core (makes_of X m840) (looks_findIn X i840) (fun self => bind_fn X self t764) (.inl rfl) ?_
  have hr1 := hroom.tc (C := 840) (rest := [v]) (kw := [(Str.ofString "posix", .bool true)])
  generalize A.under (.builtin "type.__call__" ⟨.ref 840 :: [v], [(Str.ofString "posix", .bool true)]⟩) = A1 at hr1 ⊢
  have gp : Grow hh ((hh.push emptyDict).push (instObj 840 hh.objs.size)) := (Grow.push _ _).trans (Grow.push _ _)
  have hno : hh.get? hh.objs.size = none := get?_size_none _
  have hd0 : ((hh.push emptyDict).push (instObj 840 hh.objs.size)).get? hh.objs.size = some emptyDict := Heap.get?_push_of_some _ (Heap.get?_push_size _ rfl)
  have hx0 : ((hh.push emptyDict).push (instObj 840 hh.objs.size)).get? (hh.objs.size + 1) = some (instObj 840 hh.objs.size) := Heap.get?_push_at (Heap.size_push ..).symm rfl
  have ghide : Grow hh (hideAll ((hh.push emptyDict).push (instObj 840 hh.objs.size)) [hh.objs.size]) := fun b o e => hideAll_get _ (gp _ _ e) fun q => by rw [List.mem_singleton] at q; subst q; rw [hno] at e; cases e
  have hne : hh.objs.size ≠ hh.objs.size + 1 := Nat.ne_of_lt (Nat.lt_succ_self _)
  have hal : ∀ a ∈ hh.objs.size :: ex, ∃ o, ((hh.push emptyDict).push (instObj 840 hh.objs.size)).get? a = some o := fun a ha => by
    rcases List.mem_cons.mp ha with rfl | ha
    · exact ⟨_, hd0⟩
    · obtain ⟨o, e⟩ := hex a ha; exact ⟨o, gp _ _ e⟩
  have hns0 : ((hh.push emptyDict).push (instObj 840 hh.objs.size)).Ns1 hh.objs.size (fun _ => none) := Heap.Ns1.of_empty ⟨_, #[], _, hd0, rfl, (fun e he => absurd he (by simp)), fun _ => rfl⟩
  refine lexinit_code (d := d) (x := hh.objs.size + 1) (dx := hh.objs.size) (ex := hh.objs.size :: ex) (buf := buf) hr1 h1 ⟨B.grow ghide, ?_, hal, ?_, ?_, ?_, VRs.cons vr_val' (VRs.cons ?_ VRs.nil)⟩ fun y dy pb fk h' tk htk gk hLx ndy nex mdx mdy => ?_
  · exact hideAll_get _ hx0 fun q => hne (List.mem_singleton.mp q).symm
  · intro p hp
    rw [List.mem_singleton] at hp; subst hp
    exact List.mem_cons_self
  · exact List.nodup_cons.mpr ⟨List.not_mem_nil, List.nodup_nil⟩
  · intro p hp
    rw [List.mem_singleton] at hp; subst hp
    exact ⟨_, hns0, (fun _ _ e => by cases e), fun _ _ => rfl⟩
  · exact VR.more hv hno gp
  · refine ⟨rfl, hQ _ hh.objs.size y dy pb fk h' tk htk (ghide.trans gk) hLx hno ?_ nex mdx mdy⟩
    cases q : hh.get? dy with
    | none => rfl
    | some o => have := gp _ _ q; rw [show ((hh.push emptyDict).push (instObj 840 hh.objs.size)).get? dy = none from ndy] at this; cases this
theorem Rel.kind {C : Fc} {ρ : Rho} {μ : Mu} {h : Heap} (R : Rel w C ρ μ h) {a : Addr} (ha : a ∈ own C μ) : ∃ o, h.get? a = some o ∧ o.data ≠ .plain ∧ ∀ fs, o.data ≠ .fields fs := by
  rcases List.mem_cons.mp ha with rfl | ha
  · obtain ⟨m, ⟨o, es, ep, e, d, _⟩, _⟩ := R.ns
    exact ⟨o, e, by rw [d]; simp, fun fs => by rw [d]; simp⟩
  · obtain ⟨p, hp, rfl⟩ := List.mem_map.mp ha
    have M := R.mus p hp
    cases hmo : p.2 with
    | list xs => rw [hmo] at M; obtain ⟨vs, n, e, _⟩ := M; exact ⟨_, e, by simp, fun fs => by simp⟩
    | dict fs => rw [hmo] at M; obtain ⟨m, ⟨o, _, _, e, d, _⟩, _⟩ := M; exact ⟨o, e, by rw [d]; simp, fun fs => by rw [d]; simp⟩
    | cell cv => rw [hmo] at M; cases cv with
      | none => obtain ⟨o, e, d⟩ := M; exact ⟨o, e, by rw [d]; simp, fun fs => by rw [d]; simp⟩
      | some av => obtain ⟨o, e, u, d, _⟩ := M; exact ⟨o, e, by rw [d]; simp, fun fs => by rw [d]; simp⟩
theorem LxAt.now {C : Fc} {ρ : Rho} {μ : Mu} {h : Heap} (R : Rel w C ρ μ h) {x dx y dy pb fk : Addr} (z : LxAt x dx y dy pb fk h) : LxAt x dx y dy pb fk (C.now μ h).h₀ := by
  have pl : ∀ a K d, h.get? a = some (instObj K d) → a ∉ own C μ := fun a K d e q => by
    obtain ⟨o, e', n, _⟩ := R.kind q
    rw [e] at e'; cases e'; exact n rfl
  have fl : ∀ a, h.get? a = some dqObj → a ∉ own C μ := fun a e q => by
    obtain ⟨o, e', _, n⟩ := R.kind q
    rw [e] at e'; cases e'; exact n _ rfl
  exact ⟨hideAll_get _ z.lx (pl _ _ _ z.lx), hideAll_get _ z.io (pl _ _ _ z.io), hideAll_get _ z.pb (fl _ z.pb), hideAll_get _ z.fk (fl _ z.fk)⟩
variable {A : Around} {C : Fc} {ρ : Rho} {μ : Mu} {PH : Flow → Heap → Prop}
theorem ExA.newlex {z : Str} {p' p np cp kp : Pos} {e ke : PySem.Expr} {rest : List Stmt} {buf : List Nat} {dd : Nat} (hd : C.d = dd + 7) (hf : EvTo w C ρ μ (.Name (Str.ofString "shlex") np) (.val (.ref 840))) (he : EvTo w C ρ μ e (.str buf)) (hke : EvTo w C ρ μ ke (.bool true))
    (k : ∀ h₀' x dx y dy pb fk, Grow C.h₀ h₀' → LxAt x dx y dy pb fk h₀' → ExA w A { C with h₀ := h₀' } (put ρ z (.val (.ref x))) ((dx, .dict (lexG y pb fk (lit "#") false)) :: (dy, .dict (ioF buf 0)) :: μ) rest PH)
    (hk : C.env.kindOf z = some .local := by rfl) (hs : swapsWith (.Call (.Name (Str.ofString "shlex") np) [e] [⟨some (Str.ofString "posix"), ke, kp⟩] cp) (some (.Name z p')) p.line C.env = pure false := by rfl)
    (hst : starEach [e] C.env = (false, eval e C.env) :: starEach [] C.env := by rfl) : ExA w A C ρ μ (.Assign [.Name z p'] (.Call (.Name (Str.ofString "shlex") np) [e] [⟨some (Str.ofString "posix"), ke, kp⟩] cp) p :: rest) PH :=
  fun s Q E hr h1 R hQ => wpAny_execs_cons (wpAny_Assign_Name (by
    show wpAny _ _ (do callWith cp (← eval (.Name (Str.ofString "shlex") np) C.env) [] (backTo cp (starEach [e] C.env)) (backToKw cp (keywordEach [⟨some (Str.ofString "posix"), ke, kp⟩] C.env))) _ _ _
    refine wpAny_bind (hf A s _ _ hr h1 R fun v h' tk h1' g kf => ?_)
    rw [vr_val kf]
    have R1 := R.grow g
    refine callWith_KW (K := KF w) (h₀ := C.h₀) R.ok.base.kin keep840 rfl ?_ (by rw [hst]; rfl) hst
    refine wpAny_items_cons (he A _ _ _ hr h1' R1 fun v2 h2 tk2 h12 g2 k2 => wpAny_items_nil ?_) hst
    have R2 := R1.grow g2
    refine kwAll_cons (hke A _ _ _ hr h12 R2 fun v3 h3 tk3 h13 g3 k3 => kwAll_nil ?_)
    have R3 := R2.grow g3
    have B3 := R3.ok.base.grow R3.keep
    obtain rfl := vr_bool k3
    refine ⟨B3.kin, wpAny_call (make_lex (d := dd) (ex := exs C μ) (hd ▸ hr) h13 B3 R3.alive (k2.grow g3) fun x dx y dy pb fk h4 tk4 h14 g4 hLx n1 n2 hne mdx mdy => ?_)⟩
    let hA := hideAll h4 [dx]
    have gA : Grow h3 hA := fun b o e => hideAll_get _ (g4 _ _ e) fun q => by rw [List.mem_singleton] at q; subst q; have n1 : h3.get? b = none := n1; rw [n1] at e; cases e
    have gA4 : Grow hA h4 := fun b o e => of_hideAll _ e
    have hAdx : hA.get? dx = none := hideAll_none _ (List.mem_singleton.mpr rfl)
    have RA : Rel w C ρ ((dy, .dict (ioF buf 0)) :: μ) hA := by
      refine R3.addM n2 gA (MRel.keep (fun a o e => fz_of (fun q => ?_) ?_) (fun o e => hideAll_get _ e fun q => hne (List.mem_singleton.mp q)) mdy) ?_
      · refine fz_not e ?_
        rcases List.mem_cons.mp q with q | q
        · exact List.mem_cons.mpr (.inl q)
        · exact List.mem_cons_of_mem _ (List.mem_cons_of_mem _ q)
      · exact hideAll_get _ (fz_get e) fun q => fz_not e (by rw [List.mem_singleton] at q; rw [q]; simp)
      · obtain ⟨m, ⟨o, _, _, z, _⟩, _⟩ := mdy
        exact ⟨o, hideAll_get _ z fun q => hne (List.mem_singleton.mp q)⟩
    have R4 : Rel w C ρ ((dx, .dict (lexG y pb fk (lit "#") false)) :: (dy, .dict (ioF buf 0)) :: μ) h4 := by
      refine RA.addM hAdx gA4 (MRel.keep (fun a o e => fz_of (fun q => fz_not e ?_) (fz_get e)) (fun o e => e) mdx) (by obtain ⟨m, ⟨o, _, _, z, _⟩, _⟩ := mdx; exact ⟨o, z⟩)
      simp only [exs, own, List.map_cons, List.cons_append, List.mem_cons, List.mem_append] at q ⊢
      rcases q with q | q | q | q | q <;> simp [q]
    show wpAny _ _ (storeName C.env z (.ref x)) _ _ _
    refine tok1 h14 (store_local (C := C.now _ h4) R4.now (av := .val (.ref x)) vr_val' hk fun h5 tk5 R5 => fun h15 => ?_)
    exact k _ x dx y dy pb fk (grow_now R4) (hLx.now R4) _ Q E hr h15 R5 hQ) hs)
end
end
section
section
variable {w : World} {d : Nat}
noncomputable def FS (l : List Env) : List Addr := l.filterMap (·.frame)
noncomputable def FrOk (l : List Env) (no : List Addr) (h : Heap) : Prop := ∀ e ∈ l, e.scope.kind ≠ .module ∧ ∃ L o, e.frame = some L ∧ L ∉ no ∧ h.get? L = some o ∧ ∀ vs, o.data ≠ .fields vs
theorem funFrames_of {h base : Heap} : ∀ {l : List Env}, (∀ e ∈ l, e.scope.kind ≠ .module ∧ ∃ L o, e.frame = some L ∧ base.get? L = none ∧ h.get? L = some o ∧ ∀ vs, o.data ≠ .fields vs) → h.FunFrames base l
  | [], _ => trivial
  | e :: l, k => by
    obtain ⟨h1, h2⟩ := k e List.mem_cons_self
    exact ⟨h1, h2, funFrames_of fun e' he' => k e' (List.mem_cons_of_mem _ he')⟩
theorem mem_FS {l : List Env} {e : Env} {L : Addr} (he : e ∈ l) (hf : e.frame = some L) : L ∈ FS l := List.mem_filterMap.mpr ⟨e, he, hf⟩
theorem n_StopIteration : nsIn (KF w) mainGlobals (Str.ofString "StopIteration") = some Option.none := by kernel_rfl
structure Stopped (w : World) (no : List Addr) (l : List Env) (h h' : Heap) (e : Addr) : Prop where
  exc : ∃ o, h'.get? e = some o ∧ o.cls = .type "StopIteration"
  keep : ∀ b o, b ∉ no → b ∉ FS l → h.get? b = some o → h'.get? b = some o
  slots : ∀ b o, b ∉ no → h.get? b = some o → (∀ vs, o.data ≠ .fields vs) → ∃ sl, h'.get? b = some { o with slots := sl }
theorem stepA {A : Around} {C : Fc} {ρ ρ' : Rho} {μ μ' : Mu} {st : Stmt} {rest : List Stmt} {s : Shared} {Q : Flow → Shared → Prop} {E : Value → Shared → Prop} (hr : Room C.d A) (h1 : 1 ≤ s.toks) (R : Rel w C ρ μ s.heap) (h : X1To w C ρ μ st (· = .next ρ' μ'))
    (k : ∀ h' tk, 1 ≤ tk → Rel w C ρ' μ' h' → wpAny (model PR w) A (execs rest C.env) Q E { s with heap := h', toks := tk }) : wpAny (model PR w) A (execs (st :: rest) C.env) Q E s :=
  wpAny_execs_cons (h A s _ _ hr h1 R fun fl o h' tk h1' p x => by
    cases p
    obtain ⟨rfl, R'⟩ := x
    exact k _ _ h1' R')
theorem ifA {A : Around} {C : Fc} {ρ : Rho} {μ : Mu} {t : PySem.Expr} {b o rest : List Stmt} {p : Pos} {c : Bool} {s : Shared} {Q : Flow → Shared → Prop} {E : Value → Shared → Prop} (hr : Room C.d A) (h1 : 1 ≤ s.toks) (R : Rel w C ρ μ s.heap) (h : TrTo w C ρ μ t c)
    (k : ∀ h' tk, 1 ≤ tk → Rel w C ρ μ h' → wpAny (model PR w) A (execs (if c then b ++ rest else o ++ rest) C.env) Q E { s with heap := h', toks := tk }) : wpAny (model PR w) A (execs (.If t b o p :: rest) C.env) Q E s := by
  have e : execs (.If t b o p :: rest) C.env = (do standAt p; if ← isTrue t C.env (eval t C.env) then execs (b ++ rest) C.env else execs (o ++ rest) C.env) := by
    show (do match ← exec (.If t b o p) C.env with | .next => execs rest C.env | f => pure f) = _
    rw [exec_If, bind_assoc]
    congr 1
    funext _
    rw [bind_assoc]
    congr 1
    funext c
    cases c with
    | true => exact (execs_append (C := C) b rest).symm
    | false => exact (execs_append (C := C) o rest).symm
  rw [e]
  refine wpAny_bind (wpAny_standAt (wpAny_bind (h A s _ _ hr h1 R fun h' tk h1' g => ?_)))
  have := k h' tk h1' (R.grow g)
  cases c with
  | true => exact this
  | false => exact this
theorem raiseA {A : Around} {C : Fc} {ρ : Rho} {μ : Mu} {np p : Pos} {rest : List Stmt} {s : Shared} {Q : Flow → Shared → Prop} {E : Value → Shared → Prop} (hr : Room C.d A) (h1 : 1 ≤ s.toks) (R : Rel w C ρ μ s.heap) (hx : C.env.kindOf (Str.ofString "StopIteration") = some .globalImplicit)
    (k : ∀ h' e, Heap.MadeExc s.heap h' e "StopIteration" [] → E (.ref e) { s with heap := h' }) : wpAny (model PR w) A (execs (.Raise (some (.Name (Str.ofString "StopIteration") np)) none p :: rest) C.env) Q E s := by
  refine wpAny_execs_cons (owsi_raiseC hr.2.2 ?_ fun h' e hm => k h' e hm)
  obtain ⟨_, _, _, mg, mb, T⟩ := R.ok.base.top
  exact Calls.Name_function_global R.ok.kind hx (Calls.loadGlobal_builtin (mg := mg) (mb := mb) (by rw [R.ok.glob]; exact T.g.keeps R.keep) (mg_none_of R.ok.base.kin T.g n_StopIteration) (by rw [R.ok.blt]; exact T.b.keeps R.keep) ((T.builtins _ (by decide)).trans (by boot_by_name)) ⟨rfl, rfl⟩) (by decide)
theorem leaveA {A : Around} {C : Fc} {ρ : Rho} {μ : Mu} {l : List Env} {s : Shared} {h2 : Heap} {no : List Addr} {e : Addr} {Q : Unit → Shared → Prop} {E : Value → Shared → Prop} (hfr : A.frames = some (C.env :: l)) (hfe : C.env.frame = some C.env.locals) (R : Rel w C ρ μ h2) (hm : Heap.MadeExc h2 s.heap e "StopIteration" []) {h : Heap} (hfk : FrOk l no h) (g : ∀ b o, b ∉ no → h.get? b = some o → h2.get? b = some o) (hL : h.get? C.env.locals = none)
    (k : ∀ h', Stopped w no l h h' e → Q () { s with heap := h' }) : wpAny (model PR w) A (leaving C.env (.ref e)) Q E s := by
  obtain ⟨t, het, _, _⟩ := hm.there
  have bk : ∀ b o, (hideAll h2 (C.env.locals :: FS l)).get? b = some o → s.heap.get? b = some o := fun b o e => hm.keeps _ _ (of_hideAll _ e)
  refine wpAny_leaving_firstW (base := hideAll h2 (C.env.locals :: FS l)) hfr ?_ hfe het bk ?_ rfl rfl rfl fun h5 LW => ?_
  · refine funFrames_of fun e' he' => ?_
    rcases List.mem_cons.mp he' with rfl | he'
    · refine ⟨by rw [R.ok.kind]; decide, C.env.locals, ?_⟩
      obtain ⟨o, eo, _, nf⟩ := R.kind (a := C.env.locals) List.mem_cons_self
      exact ⟨o, hfe, hideAll_none _ List.mem_cons_self, hm.keeps _ _ eo, nf⟩
    · obtain ⟨q1, L', o, q2, q3, q4, q5⟩ := hfk e' he'
      exact ⟨q1, L', o, q2, hideAll_none _ (List.mem_cons_of_mem _ (mem_FS he' q2)), hm.keeps _ _ (g _ _ q3 q4), q5⟩
  · cases q : (hideAll h2 (C.env.locals :: FS l)).get? e with
    | none => rfl
    | some o => have := of_hideAll _ q; rw [hm.new] at this; cases this
  · obtain ⟨k1, k2, k3, k4⟩ := LW
    refine k h5 ⟨?_, fun b o hb hb2 eb => ?_, fun b o hb eb nf => k4 b o (hm.keeps _ _ (g _ _ hb eb)) nf⟩
    · obtain ⟨oe, vs, T, oT, ts, q1, q2, _⟩ := k3
      exact ⟨oe, q1, q2.1⟩
    · exact k1 b o (hideAll_get _ (g _ _ hb eb) fun q => by
        rcases List.mem_cons.mp q with rfl | q
        · rw [hL] at eb; cases eb
        · exact hb2 q)

theorem next_stop {x dx y dy pb fk : Addr} {buf : List Nat} {pos : Nat} {st : Option Nat} {ln : Int} {E : LS × List Nat} (hE : rd ⟨st, [], false, 32, ln⟩ (buf.drop pos) = some E) (ht : tokAV E.1 = .none) (hst : okK st) (hpos : pos ≤ buf.length) (hl : 2 * buf.length + 2 ≤ LIM)
    {A : Around} {s : Shared} {ex : List Addr} {l : List Env} {R : Result → Shared → Prop} (hroom : Room (d + 5) A) (h1 : 1 ≤ s.toks) (hfr : A.frames = some l) (hfk : FrOk l [dx, dy] s.heap)
    (P : Pre w (LxAt x dx y dy pb fk) ex [.val (.ref x)] [.ref x] (lexμ dx dy y pb fk buf ⟨st, [], false, 32, ln⟩ pos) s.heap)
    (hR : ∀ e h' tk, 1 ≤ tk → Stopped w [dx, dy] l s.heap h' e → R (.error (.ref e)) { s with heap := h', toks := tk }) : codeAny (model PR w) A (.call (.ref 837) ⟨[.ref x], []⟩) R s := by
  refine enterA (ρ := [(Str.ofString "self", .val (.ref x))]) (by rfl) (by kernel_rfl) (BindTo.plain (names := [Str.ofString "self"]) (fun vs h => ?_) (by decide) (by decide)) rfl rfl rfl (by decide) LxAt.grow hroom h1 P ?_
  · (obtain ⟨v, rfl⟩ := ln1 h; rfl)
  · intro h₀ L ex' A' hA' hI gh hexs hL hL0 hr s' E' hs' h1' R0 hE'
    have hx : h₀.get? x = some (instObj 840 dx) := hI.lx
    have hg := gettok_ok (w := w) (d := d) (x := x) (dx := dx) (y := y) (dy := dy) (pb := pb) (fk := fk) hE hst hpos hl
    rw [ht] at hg
    refine' stepA hr h1' R0 (ρ' := put [(Str.ofString "self", .val (.ref x))] (Str.ofString "token") .none) (μ' := lexμ dx dy y pb fk buf { E.1 with tok := [] } (buf.length - E.2.length)) ?q1 (fun h2 tk2 h12 R2 => ?_)
    case q1 =>
      refine' X1To.assignM (y := Str.ofString "token") ?q2 (hk := by rfl) (hs := by rfl)
      refine' MvTo.meth0 (pre := []) (List.Mem.head _) (by rfl) ?q3 hx c840 m_gettok hg hI LxAt.grow rfl
      case q3 => exact EvTo.name (by walk_at "lk")
    refine' ifA hr h12 R2 (c := true) ?q4 (fun h3 tk3 h13 R3 => ?_)
    case q4 => show TrTo w _ _ [(dx, .dict (lexF y pb fk (stAV E.1.st) [] E.1.ln)), (dy, .dict (ioF buf (buf.length - E.2.length : Nat)))] _ _; walk_at "tr"
    simp only [if_true]
    walk_at "app"
    refine' raiseA (s := { s' with heap := h3, toks := tk3 }) hr h13 R3 ?q5 (fun h4 e hm => ?_)
    case q5 => rfl
    refine hE' _ _ ?_
    obtain ⟨hk, tkk, rfl, gk⟩ := hs'
    refine' leaveA ?q6 ?q7 R3 hm hfk (fun b o hb eb => R3.keep _ _ (gh _ _ (hideAll_get _ eb hb))) hL (fun h5 S => ?_)
    case q6 => rw [hA']; exact Around.frames_deeper hfr
    case q7 => rfl
    exact hR e h5 tk3 h13 S
end
end
section
section
variable {w : World} {d : Nat}
theorem it840 : findIn (KF w) (.ref 840) "__iter__" = some (some (.ref 830)) := by kernel_rfl
theorem nx840 : findIn (KF w) (.ref 840) "__next__" = some (some (.ref 837)) := by kernel_rfl
theorem t830 : typeIn (KF w) (.ref 830) = some (.type "function") := by kernel_rfl
theorem t837 : typeIn (KF w) (.ref 837) = some (.type "function") := by kernel_rfl
theorem ln840 : findIn (KF w) (.ref 840) "__len__" = some none := by kernel_rfl
theorem lh840 : findIn (KF w) (.ref 840) "__length_hint__" = some none := by kernel_rfl
theorem pyNext_lex {A : Around} {s : Shared} {x : Addr} {ox : Obj} {od : Option Obj} {Q : Option Value → Shared → Prop} {E : Value → Shared → Prop} (X : (KF w).In s.heap) (I : InstAt s.heap x ox 840 od)
    (h : wpAny (model PR w) A (call (.ref 837) [.ref x]) (fun v s' => Q (some v) s') (fun e s' => wpAny (model PR w) A (isInstance e (.type "StopIteration")) (fun b s₂ => if b = true then Q none s₂ else E e s₂) E s') s) : wpAny (model PR w) A (pyNext (.ref x)) Q E s := by
  unfold pyNext
  refine wpAny_bind (wpAny_attempt (special_fn (name := "__next__") (args := []) X I nx840 t837 (wpAny_mono h (fun v s' hq => wpAny_pure hq) (fun e s' he => ?_))))
  refine wpAny_bind (wpAny_mono he (fun b s₂ hb => ?_) fun _ _ z => z)
  cases b with
  | true => exact wpAny_pure hb
  | false => exact wpAny_throw hb
theorem pyIter_lex {A : Around} {s : Shared} {x : Addr} {ox : Obj} {od : Option Obj} {Q : Value → Shared → Prop} {E : Value → Shared → Prop} (X : (KF w).In s.heap) (I : InstAt s.heap x ox 840 od)
    (h : wpAny (model PR w) A (call (.ref 830) [.ref x]) (fun v s' => v = .ref x ∧ (KF w).In s'.heap ∧ InstAt s'.heap x ox 840 od ∧ Q (.ref x) s') E s) : wpAny (model PR w) A (pyIter (.ref x)) Q E s := by
  have fin : wpAny (model PR w) A (call (.ref 830) [.ref x] >>= fun v => pure (some v)) (fun r s' => r = some (.ref x) ∧ (KF w).In s'.heap ∧ InstAt s'.heap x ox 840 od ∧ Q (.ref x) s') E s :=
    wpAny_bind (wpAny_mono h (fun v s' h' => wpAny_pure ⟨by rw [h'.1], h'.2⟩) fun _ _ z => z)
  have one : ∀ refuse : Sem Value, wpAny (model PR w) A (callSpecialIfBoundUnlessNone? (.ref x) "__iter__" refuse) (fun r s' => r = some (.ref x) ∧ (KF w).In s'.heap ∧ InstAt s'.heap x ox 840 od ∧ Q (.ref x) s') E s := by
    intro refuse
    simp only [callSpecialIfBoundUnlessNone?, bindSpecialIfBound?]
    refine wpAny_holding (wpAny_bind (wpAny_bind (wpAny_bind (I.type.here ((looks_findIn X it840).here ?_)))))
    refine wpAny_bind (wpAny_askSetting (wpAny_ite ?_))
    have fin2 : wpAny (model PR w) A (if (Value.ref 830 == Value.none) = true then (refuse >>= fun v => pure (some v)) else (call (.ref 830) [.ref x] >>= fun v => pure (some v))) (fun r s' => r = some (.ref x) ∧ (KF w).In s'.heap ∧ InstAt s'.heap x ox 840 od ∧ Q (.ref x) s') E s := by
      rw [if_neg (show ¬ ((Value.ref 830 == Value.none) = true) from Bool.false_ne_true)]
      exact fin
    split
    · exact wpAny_bind ((bind_fn X _ t830).here (wpAny_pure (by exact fin2)))
    · exact wpAny_tryCatch (wpAny_bind ((bind_fn X _ t830).here (wpAny_pure (by exact fin2))))
  unfold pyIter
  refine wpAny_bind (wpAny_bind (I.type.here ((looks_findIn X it840).here ?_)))
  show wpAny (model PR w) A (callSpecialIfBoundUnlessNone? (.ref x) "__iter__" _ >>= _) Q E s
  refine wpAny_bind (wpAny_mono (one _) (fun r s' hr => ?_) fun _ _ z => z)
  obtain ⟨rfl, X', I', hv⟩ := hr
  exact wpAny_bind (wpAny_bind (I'.type.here ((looks_findIn X' nx840).here (wpAny_pure hv))))
inductive Toks : Option Nat → Int → List Nat → List (List Nat) → Prop
  | done {st : Option Nat} {ln : Int} {r : List Nat} {E : LS × List Nat} (h1 : okK st) (h2 : rd ⟨st, [], false, 32, ln⟩ r = some E) (h3 : tokAV E.1 = .none) : Toks st ln r []
  | more {st : Option Nat} {ln : Int} {r t : List Nat} {ts : List (List Nat)} {E : LS × List Nat} (h1 : okK st) (h2 : rd ⟨st, [], false, 32, ln⟩ r = some E) (h3 : tokAV E.1 = .str t) (h4 : Toks E.1.st E.1.ln E.2 ts) : Toks st ln r (t :: ts)
theorem rd_suffix : ∀ (l : List Nat) (s : LS) (E : LS × List Nat), rd s l = some E → E.2 <:+ l
  | [], s, E, h => by
    unfold rd at h
    obtain ⟨s', _, rfl⟩ := Option.map_eq_some_iff.mp h
    exact List.suffix_refl _
  | c :: r, s, E, h => by
    unfold rd at h
    split at h
    · obtain rfl := Option.some.inj h
      exact List.suffix_cons c r
    · exact (rd_suffix r _ E h).trans (List.suffix_cons c r)
theorem rd_drop {buf : List Nat} {pos : Nat} {s : LS} {E : LS × List Nat} (h : rd s (buf.drop pos) = some E) : buf.drop (buf.length - E.2.length) = E.2 :=
  (List.suffix_iff_eq_drop.mp ((rd_suffix _ _ _ h).trans (List.drop_suffix pos buf))).symm
structure LI (hb : Heap) (ex : List Addr) (dx dy y pb fk : Addr) (buf : List Nat) (st : Option Nat) (ln : Int) (pos : Nat) (h : Heap) : Prop where
  g : Grow hb h
  alive : ∀ a ∈ ex, ∃ o, h.get? a = some o
  mus : ∀ p ∈ lexμ dx dy y pb fk buf ⟨st, [], false, 32, ln⟩ pos, MRel (fz ex h) h p.1 p.2
structure LB (w : World) (hb : Heap) (ex : List Addr) (S x dx dy y pb fk : Addr) : Prop where
  base : Base w hb
  lx : LxAt x dx y dy pb fk hb
  nS : hb.get? S = none
  nx : hb.get? dx = none
  ny : hb.get? dy = none
  inS : S ∈ ex
  inx : dx ∈ ex
  iny : dy ∈ ex
  nexy : dx ≠ dy
  neSx : S ≠ dx
  neSy : S ≠ dy
theorem LI.pre {hb h : Heap} {ex : List Addr} {S x dx dy y pb fk : Addr} {buf : List Nat} {st : Option Nat} {ln : Int} {pos : Nat} (B : LB w hb ex S x dx dy y pb fk) (I : LI hb ex dx dy y pb fk buf st ln pos h) :
    Pre w (LxAt x dx y dy pb fk) ex [.val (.ref x)] [.ref x] (lexμ dx dy y pb fk buf ⟨st, [], false, 32, ln⟩ pos) h := by
  have g : Grow hb (hideAll h [dx, dy]) := fun b o e => hideAll_get _ (I.g _ _ e) fun q => by
    rcases List.mem_cons.mp q with rfl | q
    · rw [B.nx] at e; cases e
    · rw [List.mem_singleton] at q; subst q; rw [B.ny] at e; cases e
  refine ⟨B.base.grow g, LxAt.grow _ _ B.lx g, I.alive, fun p hp => ?_, ?_, I.mus, VRs.cons vr_val' VRs.nil⟩
  · rcases List.mem_cons.mp hp with rfl | hp
    · exact B.inx
    · rw [List.mem_singleton] at hp; subst hp; exact B.iny
  · exact List.nodup_cons.mpr ⟨fun q => B.nexy (List.mem_singleton.mp q), List.nodup_cons.mpr ⟨List.not_mem_nil, List.nodup_nil⟩⟩
theorem LI.inst {hb h : Heap} {ex : List Addr} {S x dx dy y pb fk : Addr} {buf : List Nat} {st : Option Nat} {ln : Int} {pos : Nat} (B : LB w hb ex S x dx dy y pb fk) (I : LI hb ex dx dy y pb fk buf st ln pos h) : ∃ od, InstAt h x (instObj 840 dx) 840 (some od) := by
  obtain ⟨m, ⟨o, _, _, e, _⟩, _⟩ := I.mus _ List.mem_cons_self
  exact ⟨o, inst_at (I.g _ _ B.lx.lx) e⟩
theorem vr_strF {F F' : Addr → Option Obj} {t : List Nat} {v : Value} (h : VR F (.str t) v) : VR F' (.str t) v := by unfold VR at h ⊢; exact h
end
end
section
section
variable {w : World} {d : Nat}
structure Ended (no : List Addr) (l : List Env) (h h' : Heap) : Prop where
  keep : ∀ b o, b ∉ no → b ∉ FS l → h.get? b = some o → h'.get? b = some o
  slots : ∀ b o, b ∉ no → h.get? b = some o → (∀ vs, o.data ≠ .fields vs) → ∃ sl, h'.get? b = some { o with slots := sl }
theorem Ended.of_keeps {no : List Addr} {l : List Env} {h h' : Heap} (k : ∀ b o, b ∉ no → h.get? b = some o → h'.get? b = some o) : Ended no l h h' := ⟨fun b o hb _ e => k b o hb e, fun b o hb e _ => ⟨o.slots, k b o hb e⟩⟩
theorem Ended.trans {no : List Addr} {l : List Env} {h h' h'' : Heap} (x : Ended no l h h') (y : Ended no l h' h'') : Ended no l h h'' :=
  ⟨fun b o hb hf e => y.keep b o hb hf (x.keep b o hb hf e), fun b o hb e nf => let ⟨_, e1⟩ := x.slots b o hb e nf; let ⟨sl, e2⟩ := y.slots b _ hb e1 nf; ⟨sl, e2⟩⟩
theorem FrOk.keeps {l : List Env} {no : List Addr} {h h' : Heap} (f : FrOk l no h) (k : ∀ b o, b ∉ no → h.get? b = some o → h'.get? b = some o) : FrOk l no h' := fun e he =>
  let ⟨q1, L, o, q2, q3, q4, q5⟩ := f e he; ⟨q1, L, o, q2, q3, k _ _ q3 q4, q5⟩
theorem FrOk.less {l : List Env} {no no' : List Addr} {h : Heap} (f : FrOk l no h) (k : ∀ b, b ∈ no' → b ∈ no) : FrOk l no' h := fun e he =>
  let ⟨q1, L, o, q2, q3, q4, q5⟩ := f e he; ⟨q1, L, o, q2, fun q => q3 (k _ q), q4, q5⟩
theorem FrOk.not {l : List Env} {no : List Addr} {h : Heap} (f : FrOk l no h) {b : Addr} (hb : b ∈ no) : b ∉ FS l := fun q => by
  obtain ⟨e, he, hf⟩ := List.mem_filterMap.mp q
  obtain ⟨_, L, _, q2, q3, _⟩ := f e he
  rw [hf] at q2; cases q2; exact q3 hb
theorem sub_stop : isSubtype (.type "StopIteration") (.type "StopIteration") = pure true := owsi_facts.sub
theorem loop_lex {hb : Heap} {ex : List Addr} {S x dx dy y pb fk : Addr} {buf : List Nat} {l : List Env} {res : Value} (B : LB w hb ex S x dx dy y pb fk) (hl : 2 * buf.length + 2 ≤ LIM) {A : Around} (hroom : Room (d + 6) A) (hfr : A.frames = some l)
    {st : Option Nat} {ln : Int} {r : List Nat} {ts : List (List Nat)} (T : Toks st ln r ts) : ∀ (pos : Nat) (s : Shared) (accs : List Value) (dn : List AV) (c : Nat) (R : Result → Shared → Prop), buf.drop pos = r → pos ≤ buf.length → 1 ≤ s.toks →
      LI hb ex dx dy y pb fk buf st ln pos s.heap → s.heap.get? S = some { cls := .type "list", dict := none, data := .seq accs.toArray c, slots := #[] } → VRs (fun _ => none) dn accs → accs.length + ts.length ≤ LIM → FrOk l [dx, dy, S] s.heap →
      (∀ h' tk accs' c', 1 ≤ tk → Ended [dx, dy, S] l s.heap h' → h'.get? S = some { cls := .type "list", dict := none, data := .seq (List.toArray accs') c', slots := #[] } → VRs (fun _ => none) (dn ++ ts.map AV.str) accs' → R (.ok (.ret res)) { s with heap := h', toks := tk }) →
      codeAny (model PR w) A (.builtin "list.extend.loop" ⟨[.ref S, .ref x, res], []⟩) R s := by
  induction T with
  | done k1 k2 k3 =>
    intro pos s accs dn c R hr hpos h1 I hS hdn hlen hf hR
    subst hr
    obtain ⟨od, II⟩ := I.inst B
    have P := I.pre B
    refine codeAny_builtin PySem.F.entry_extend_loop ?_
    rw [Around.under_plainId PySem.F.plain_extend_loop _]
    show wpAny _ A.in1 (pyNext (.ref x) >>= _) _ _ s
    refine wpAny_bind (pyNext_lex (P.base.kin.keeps fun b o e => of_hideAll _ e) II (wpAny_call (next_stop (d := d) k2 k3 k1 hpos hl hroom.in1 h1 hfr (hf.less fun b q => by simp at q ⊢; rcases q with q | q <;> simp [q]) P fun e h' tk htk Z => ?_)))
    obtain ⟨oe, eo, ec⟩ := Z.exc
    refine wpAny_isInstance (T := "StopIteration") (U := "StopIteration") ⟨oe, eo, ec⟩ sub_stop ?_
    show (if true = true then _ else _)
    rw [if_pos rfl]
    refine wpAny_pure (hR h' tk accs c htk ⟨fun b o hb hf' e => Z.keep b o (fun q => hb (by simp at q ⊢; rcases q with q | q <;> simp [q])) hf' e, fun b o hb e nf => Z.slots b o (fun q => hb (by simp at q ⊢; rcases q with q | q <;> simp [q])) e nf⟩ ?_ (by rw [List.map_nil, List.append_nil]; exact hdn))
    refine Z.keep S _ (fun q => ?_) (hf.not (by simp)) hS
    simp at q
    rcases q with q | q
    · exact B.neSx q
    · exact B.neSy q
  | @more st ln r t ts E k1 k2 k3 k4 ih =>
    intro pos s accs dn c R hr hpos h1 I hS hdn hlen hf hR
    subst hr
    obtain ⟨od, II⟩ := I.inst B
    have P := I.pre B
    refine codeAny_builtin PySem.F.entry_extend_loop ?_
    rw [Around.under_plainId PySem.F.plain_extend_loop _]
    show wpAny _ A.in1 (pyNext (.ref x) >>= _) _ _ s
    refine wpAny_bind (pyNext_lex (P.base.kin.keeps fun b o e => of_hideAll _ e) II (wpAny_call (next_some (d := d) k2 k3 k1 hpos hl A.in1 s ex [.ref x] _ hroom.in1 h1 P fun v h' tk htk Z => ?_)))
    have nSd : S ∉ [dx, dy] := fun q => by
      simp at q
      rcases q with q | q
      · exact B.neSx q
      · exact B.neSy q
    have kp : ∀ b o, b ∉ [dx, dy] → s.heap.get? b = some o → h'.get? b = some o := fun b o hb e => Z.keep b o (hideAll_get _ e hb)
    have hS' := kp _ _ nSd hS
    have hLIM : LIM = 1048576 := rfl
    obtain ⟨hl0, hlt⟩ : accs.length ≤ LIM ∧ accs.length < LIM := by simp at hlen; (first | lia | omega)
    have hv := hdn.append (VRs.cons (vr_strF (F' := fun _ => none) Z.res) VRs.nil)
    have hS2 := Heap.get?_update_self (Obj.mapSeq (·.push v)) hS' rfl
    have oth : ∀ b o, b ≠ S → h'.get? b = some o → (h'.update S (Obj.mapSeq (·.push v))).get? b = some o := fun b o hb e => (Heap.get?_update_other _ _ (Ne.symm hb)).trans e
    have all : ∀ b o, b ∉ [dx, dy, S] → s.heap.get? b = some o → (h'.update S (Obj.mapSeq (·.push v))).get? b = some o := fun b o hb e => oth b o (fun q => hb (by simp [q])) (kp b o (fun q => hb (by simp at q ⊢; rcases q with q | q <;> simp [q])) e)
    show wpAny _ A.in1 (updateSeq S (·.push v) >>= _) _ _ _
    refine wpAny_bind (wpAny_updateSeq hS' rfl (wpAny_pure ⟨plainId_quiet PySem.F.plain_extend_loop _, ?_⟩) (by rw [sizeLine_eq]; simp; (first | lia | omega)) (by rw [sizeLine_eq]; simp; (first | lia | omega)))
    refine ih (buf.length - E.2.length) _ (accs ++ [v]) (dn ++ [.str t]) (c := ?_) _ (rd_drop k2) (Nat.sub_le _ _) htk ⟨?_, ?_, ?_⟩ ?_ hv (by simp at hlen ⊢; (first | lia | omega)) (hf.keeps all) fun h2 tk2 accs2 c2 htk2 en hS3 hv2 => ?_
    rotate_left
    · intro b o e
      refine oth b o (fun q => ?_) (Z.keep b o (hideAll_get _ (I.g b o e) fun q => ?_))
      · subst q; rw [B.nS] at e; cases e
      · have q : b ∈ [dx, dy] := q
        simp at q
        rcases q with rfl | rfl
        · rw [B.nx] at e; cases e
        · rw [B.ny] at e; cases e
    · intro a ha
      by_cases q : a = S
      · exact ⟨_, by rw [q]; exact hS2⟩
      · by_cases q2 : a ∈ [dx, dy]
        · have q2 : a = dx ∨ a = dy := by simpa using q2
          rcases q2 with rfl | rfl
          · obtain ⟨m, ⟨o, _, _, e, _⟩, _⟩ := Z.mus _ List.mem_cons_self
            exact ⟨o, oth _ _ q e⟩
          · obtain ⟨m, ⟨o, _, _, e, _⟩, _⟩ := Z.mus _ (List.mem_cons_of_mem _ List.mem_cons_self)
            exact ⟨o, oth _ _ q e⟩
        · obtain ⟨o, e⟩ := I.alive a ha
          exact ⟨o, oth _ _ q (kp _ _ q2 e)⟩
    · intro p hp
      refine MRel.keep (fun a o e => fz_of (fz_not e) (oth _ _ (fun q => fz_not e (q ▸ B.inS)) (fz_get e))) (fun o e => oth _ _ (fun q => ?_) e) (Z.mus p hp)
      refine nSd (q ▸ ?_)
      exact List.mem_map_of_mem (f := (·.1)) hp
    · rw [show (accs ++ [v]).toArray = accs.toArray.push v by simp]; exact hS2
    · exact hR h2 tk2 accs2 c2 htk2 ((Ended.of_keeps all).trans en) hS3 (by rw [List.map_cons, ← List.append_cons] at *; simpa using hv2)
end
end
section
section
variable {w : World} {d : Nat}
theorem Room.less {A : Around} {d d' : Nat} (h : Room d A) (hd : d' ≤ d) : Room d' A := ⟨⟨by have := h.1.1; (first | lia | omega), h.1.2⟩, by have := h.2.1; (first | lia | omega), h.2.2⟩
structure LP (w : World) (hb : Heap) (ex : List Addr) (x dx dy y pb fk : Addr) : Prop where
  base : Base w hb
  lx : LxAt x dx y dy pb fk hb
  nx : hb.get? dx = none
  ny : hb.get? dy = none
  inx : dx ∈ ex
  iny : dy ∈ ex
  nexy : dx ≠ dy
theorem LP.lb {hb : Heap} {ex : List Addr} {S x dx dy y pb fk : Addr} (P : LP w hb ex x dx dy y pb fk) (nS : hb.get? S = none) (h1 : S ≠ dx) (h2 : S ≠ dy) : LB w hb (S :: ex) S x dx dy y pb fk :=
  ⟨P.base, P.lx, nS, P.nx, P.ny, List.mem_cons_self, List.mem_cons_of_mem _ P.inx, List.mem_cons_of_mem _ P.iny, P.nexy, h1, h2⟩
theorem list_lex {hb : Heap} {ex : List Addr} {x dx dy y pb fk : Addr} {buf : List Nat} {l : List Env} (P : LP w hb ex x dx dy y pb fk) (hl : 2 * buf.length + 2 ≤ LIM) {A : Around} {s : Shared} {Q E : Value → Shared → Prop} (hroom : Room (d + 8) A) (hfr : A.frames = some l)
    {st : Option Nat} {ln : Int} {ts : List (List Nat)} (pos : Nat) (T : Toks st ln (buf.drop pos) ts) (hpos : pos ≤ buf.length) (hts : ts.length ≤ LIM) (h1 : 1 ≤ s.toks) (I : LI hb ex dx dy y pb fk buf st ln pos s.heap) (hf : FrOk l [dx, dy] s.heap)
    (hQ : ∀ S h' tk accs c, 1 ≤ tk → Ended [dx, dy] l s.heap h' → s.heap.get? S = none → h'.get? S = some (listObj accs c) → VRs (fun _ => none) (ts.map AV.str) accs → Q (.ref S) { s with heap := h', toks := tk }) :
    wpAny (model PR w) A (call (.type "list") [.ref x]) Q E s := by
  obtain ⟨hh, gg, dd, tt, os⟩ := s
  have nS : hh.get? hh.objs.size = none := get?_size_none _
  have nal : ∀ a, (∃ o, hh.get? a = some o) → hh.objs.size ≠ a := fun a ⟨o, e⟩ q => by rw [← q, nS] at e; cases e
  have neSx : hh.objs.size ≠ dx := nal _ (I.alive _ P.inx)
  have neSy : hh.objs.size ≠ dy := nal _ (I.alive _ P.iny)
  have nb : hb.get? hh.objs.size = none := by
    cases q : hb.get? hh.objs.size with
    | none => rfl
    | some o => have := I.g _ _ q; rw [nS] at this; cases this
  have neSX : hh.objs.size ≠ x := nal _ ⟨_, I.g _ _ P.lx.lx⟩
  have B := P.lb nb neSx neSy
  refine callType_codes (Q₁ := fun obj s₁ => obj = .ref hh.objs.size ∧ s₁ = { heap := hh.push { cls := .type "list", data := .seq #[] }, gens := gg, drawn := dd, toks := tt, os := os }) PySem.F.called_list (PySem.F.typeCall_list_1 _) PySem.F.entry_list_init
    (code_list_new _ ⟨rfl, rfl⟩) fun obj s₁ h₁ => ?_
  obtain ⟨rfl, rfl⟩ := h₁
  have hS : (hh.push { cls := .type "list", data := .seq #[] }).get? hh.objs.size = some { cls := .type "list", data := .seq #[] } := Heap.get?_push_size _ rfl
  refine ⟨⟨_, hS, rfl⟩, PySem.F.args_list_init_2 _ _, ?_⟩
  show wpAny _ A.in1.in1 (do let old ← Builtin.List.listItems (.ref hh.objs.size); Builtin.List.listUpdate (.ref hh.objs.size) (fun _ => #[]); letGo old.toList.reverse; Builtin.List.listExtendWith (.ref hh.objs.size) (.ref x) .none) _ _ _
  refine wpAny_bind ?_
  unfold Builtin.List.listItems
  refine wpAny_bind (wpAny_seqItems hS rfl (wpAny_pure ?_))
  show wpAny _ A.in1.in1 (updateSeq hh.objs.size (fun _ => #[]) >>= fun _ => letGo (#[] : Array Value).toList.reverse >>= fun _ => Builtin.List.listExtendWith (.ref hh.objs.size) (.ref x) .none) _ _ _
  refine wpAny_bind (wpAny_updateSeq hS rfl ?_)
  have hS2 := Heap.get?_update_self (Obj.mapSeq (fun _ => (#[] : Array Value))) hS rfl
  have g1 : Grow hh ((hh.push { cls := .type "list", data := .seq #[] }).update hh.objs.size (Obj.mapSeq (fun _ => (#[] : Array Value)))) := fun b o e =>
    (Heap.get?_update_other _ _ (fun q => by rw [← q, nS] at e; cases e)).trans (Heap.get?_push_of_some _ e)
  generalize hh2 : (hh.push { cls := .type "list", data := .seq #[] }).update hh.objs.size (Obj.mapSeq (fun _ => (#[] : Array Value))) = h2 at hS2 g1
  refine wpAny_bind (wpAny_letGo ?_)
  have I2 : LI hb (hh.objs.size :: ex) dx dy y pb fk buf st ln pos h2 := ⟨I.g.trans g1, fun a ha => by
      rcases List.mem_cons.mp ha with rfl | ha
      · exact ⟨_, hS2⟩
      · obtain ⟨o, e⟩ := I.alive a ha; exact ⟨o, g1 _ _ e⟩, fun p hp => MRel.keep (fun a o e => fz_of (fun q => by
      rcases List.mem_cons.mp q with q | q
      · have := fz_get e; rw [q, nS] at this; cases this
      · exact fz_not e q) (g1 _ _ (fz_get e))) (fun o e => g1 _ _ e) (I.mus p hp)⟩
  obtain ⟨od, II⟩ := I2.inst B
  have X2 : (KF w).In h2 := P.base.kin.keeps I2.g
  unfold Builtin.List.listExtendWith
  refine wpAny_bind (II.type.here ?_)
  have e1 : Builtin.List.listSameRef (.ref hh.objs.size) (.ref x) = false := by simp [Builtin.List.listSameRef, neSX]
  have e2 : (Value.ref 840 == Value.type "list") = false := by decide
  have e3 : (Value.ref 840 == Value.type "tuple") = false := by decide
  simp only [e1, e2, e3, Bool.or_false, Bool.false_eq_true, if_false]
  refine wpAny_bind (pyIter_lex X2 II (iter_ok (d := d) A.in1.in1 _ [] [.ref x] _ _ (hroom.in1.in1.less (by (first | lia | omega))) h1 (P.base.grow I2.g) (fun a ha => by cases ha) (VRs.cons vr_val' VRs.nil) fun v h3 tk3 h13 g3 kv => ?_))
  have g3 : Grow h2 h3 := g3
  have I3 : LI hb (hh.objs.size :: ex) dx dy y pb fk buf st ln pos h3 := ⟨I2.g.trans g3, fun a ha => let ⟨o, e⟩ := I2.alive a ha; ⟨o, g3 _ _ e⟩, fun p hp => (I2.mus p hp).grow g3⟩
  have hS3 := g3 _ _ hS2
  have X3 : (KF w).In h3 := P.base.kin.keeps I3.g
  have g03 : Grow hh h3 := g1.trans g3
  have od3 : ∃ o, h3.get? dx = some o := I3.alive _ (List.mem_cons_of_mem _ P.inx)
  have II3 : InstAt h3 x (instObj 840 dx) 840 (some od) := ⟨g3 _ _ II.at_, II.cls, II.no, g3 _ _ II.dict⟩
  refine ⟨vr_val kv, X3, II3, ?_⟩
  refine wpAny_bind (wpAny_holding ?_)
  unfold Builtin.List.listLengthHint
  refine wpAny_bind (wpAny_bind (II3.type.here ((looks_findIn X3 ln840).here ?_)))
  show wpAny _ A.in1.in1 (specialOf (Value.ref x) (Str.ofString "__length_hint__") >>= _) _ _ _
  refine wpAny_bind (wpAny_bind (II3.type.here ((looks_findIn X3 lh840).here ?_)))
  refine wpAny_pure ?_
  show wpAny _ A.in1.in1 (rule "list.extend.makes-room" >>= fun _ => Builtin.List.listTouch (.ref hh.objs.size) >>= fun _ =>
    again (.builtin "list.extend.loop" ⟨[.ref hh.objs.size, .ref x, .none], []⟩)) _ _ _
  refine wpAny_bind (wpAny_rule ?_)
  refine wpAny_bind ?_
  show wpAny _ A.in1.in1 (updateSeq hh.objs.size (·.push .none) >>= fun _ => updateSeq hh.objs.size (·.pop)) _ _ _
  refine wpAny_bind (wpAny_updateSeq hS3 rfl ?_)
  have hS4 := Heap.get?_update_self (Obj.mapSeq (·.push Value.none)) hS3 rfl
  refine wpAny_updateSeq (hz := by seq_fits) hS4 rfl ?_
  have hS5 := Heap.get?_update_self (Obj.mapSeq (·.pop)) hS4 rfl
  have oth : ∀ b o, b ≠ hh.objs.size → h3.get? b = some o → ((h3.update hh.objs.size (Obj.mapSeq (·.push Value.none))).update hh.objs.size (Obj.mapSeq (·.pop))).get? b = some o :=
    fun b o hb e => (Heap.get?_update_other _ _ (Ne.symm hb)).trans ((Heap.get?_update_other _ _ (Ne.symm hb)).trans e)
  generalize (h3.update hh.objs.size (Obj.mapSeq (·.push Value.none))).update hh.objs.size (Obj.mapSeq (·.pop)) = h5 at hS5 oth
  have g05 : Grow hh h5 := fun b o e => oth b o (fun q => by rw [q, nS] at e; cases e) (g03 _ _ e)
  have I5 : LI hb (hh.objs.size :: ex) dx dy y pb fk buf st ln pos h5 := ⟨I.g.trans g05, fun a ha => by
      rcases List.mem_cons.mp ha with rfl | ha
      · exact ⟨_, hS5⟩
      · obtain ⟨o, e⟩ := I.alive a ha; exact ⟨o, g05 _ _ e⟩, fun p hp => MRel.keep (fun a o e => fz_of (fun q => by
      rcases List.mem_cons.mp q with q | q
      · have := fz_get e; rw [q, nS] at this; cases this
      · exact fz_not e q) (g05 _ _ (fz_get e))) (fun o e => g05 _ _ e) (I.mus p hp)⟩
  have hf5 : FrOk l [dx, dy, hh.objs.size] h5 := fun e he => by
    obtain ⟨q1, L, o, q2, q3, q4, q5⟩ := hf e he
    refine ⟨q1, L, o, q2, fun q => ?_, g05 _ _ q4, q5⟩
    simp at q3 q
    rcases q with q | q | q
    · exact q3.1 q
    · exact q3.2 q
    · exact nal _ ⟨o, q4⟩ q.symm
  refine wpAny_pure ⟨plainId_quiet PySem.F.plain_extend_loop _, loop_lex (d := d) B hl (hroom.in1.less (by (first | lia | omega))) hfr T pos _ [] [] _ _ rfl hpos h13 I5 hS5 VRs.nil (by simpa using hts) hf5 fun h6 tk6 accs c6 h16 en hS6 hv6 => ?_⟩
  refine ⟨rfl, hQ hh.objs.size h6 tk6 accs c6 h16 ⟨fun b o hb' hfs e => ?_, fun b o hb' e nf => ?_⟩ nS hS6 hv6⟩
  · refine en.keep b o (fun q => ?_) hfs (g05 _ _ e)
    simp at q hb'
    rcases q with q | q | q
    · exact hb'.1 q
    · exact hb'.2 q
    · exact nal _ ⟨o, e⟩ q.symm
  · refine en.slots b o (fun q => ?_) (g05 _ _ e) nf
    simp at q hb'
    rcases q with q | q | q
    · exact hb'.1 q
    · exact hb'.2 q
    · exact nal _ ⟨o, e⟩ q.symm
end
end
section
local macro_rules | `(tactic| walk_at "AF") => `(tactic| (refine' ExA.iff ?q1 (fun h => ?q2) (fun _ => ?_); (case q1 => walk_at "tr"); (case q2 => first | (cases h; done) | (exfalso; simp at h; done)); walk_at "app"))
local macro_rules | `(tactic| walk_at "AT") => `(tactic| (refine' ExA.iff ?q1 (fun _ => ?_) (fun h => ?q2); (case q1 => walk_at "tr"); (case q2 => first | (cases h; done) | (exfalso; simp at h; done)); walk_at "app"))
section
variable {w : World} {A : Around} {C : Fc} {ρ : Rho} {μ : Mu} {PH : Flow → Heap → Prop} {d : Nat}
theorem ExA.retcall {x : Str} {xp cp p : Pos} {e : PySem.Expr} {T : String} {a : Value} (hf : EvTo w C ρ μ (.Name x xp) (.val (.type T))) (he : EvTo w C ρ μ e (.val a))
    (hc : ∀ (s : Shared) (Q E : Value → Shared → Prop), Room C.d A → 1 ≤ s.toks → Rel w C ρ μ s.heap → (∀ v h' tk, 1 ≤ tk → PH (.ret v) h' → Q v { s with heap := h', toks := tk }) → wpAny (model PR w) A (PySem.call (.type T) [a]) Q E s)
    (hst : starEach [e] C.env = (false, eval e C.env) :: starEach [] C.env := by rfl) : ExA w A C ρ μ [.Return (some (.Call (.Name x xp) [e] [] cp)) p] PH :=
  fun s Q E hr h1 R hQ => wpAny_execs_cons (wpAny_Return_some (by
    show wpAny _ _ (do callWith cp (← eval (.Name x xp) C.env) [] (backTo cp (starEach [e] C.env)) (backToKw cp (keywordEach [] C.env))) _ _ _
    refine wpAny_bind (hf A s _ _ hr h1 R fun v h' tk h1' g k => ?_)
    rw [vr_val k]
    have R' := R.grow g
    have run : wpAny (model PR w) A (spliced (backTo cp (starEach [e] C.env))) (fun vs s₁ => wpAny (model PR w) A (PySem.call (.type T) vs) (fun v s' => (match Flow.ret v with | .next => wpAny (model PR w) A (execs [] C.env) Q E s' | f => Q f s')) E s₁) E { s with heap := h', toks := tk } :=
      (ArgsTo.cons he ArgsTo.nil hst) A _ _ _ hr h1' R' fun vs h2 tk2 h12 g2 xs => by
        obtain ⟨v0, r, rfl, kv, kr⟩ := (show ∃ v r, vs = v :: r ∧ VR _ (.val a) v ∧ VRs _ [] r by unfold VRs at xs; exact xs)
        obtain rfl := (show r = [] by unfold VRs at kr; exact kr)
        rw [vr_val kv]
        exact hc _ _ _ hr h12 (R'.grow g2) fun v h3 tk3 h13 p => hQ _ h3 tk3 h13 p
    rw [hst] at run ⊢
    exact PyProof.Rows.callWith_type (by rfl) (Calls.evalArgs_plain run)))
theorem split_code {A : Around} {s : Shared} {ex : List Addr} {v : Value} {buf : List Nat} {l : List Env} {ts : List (List Nat)} {R : Result → Shared → Prop} (hroom : Room (d + 9) A) (h1 : 1 ≤ s.toks) (hfr : A.frames = some l) (hf : FrOk l [] s.heap)
    (B : Base w s.heap) (hex : ∀ a ∈ ex, ∃ o, s.heap.get? a = some o) (hv : VR (fz ex s.heap) (.str buf) v) (hl : 2 * buf.length + 2 ≤ LIM) (T : Toks (some 32) 1 buf ts) (hts : ts.length ≤ LIM)
    (hQ : ∀ v h' tk, 1 ≤ tk → Ended [] l s.heap h' → VR (fz ex h') (.list (ts.map AV.str)) v → R (.ok (.ret v)) { s with heap := h', toks := tk }) : codeAny (model PR w) A (.call (.ref 852) ⟨[v], []⟩) R s := by
  have g0 : Grow s.heap (hideAll s.heap (ads [])) := fun b o e => hideAll_get _ e (fun q => by cases q)
  refine' enterA (PP := fun _ => True) (μ₀ := []) (args := [.str buf]) (d := d + 8) (by rfl) (by kernel_rfl) ?hb rfl rfl rfl (by decide) (fun h h' a g => trivial) hroom h1 ⟨B.grow g0, trivial, hex, (fun p hp => by cases hp), List.nodup_nil, (fun p hp => by cases hp), VRs.cons hv VRs.nil⟩ ?_
  case hb =>
    refine BindTo.peekD (args := [.str buf]) (dargs := [.bool false, .bool true]) (names := [Str.ofString "s", Str.ofString "comments", Str.ofString "posix"]) (fun vs h => ?_) (by decide) (by decide)
    match vs, h with
    | [v], _ => exact ⟨[.bool false, .bool true], fun S => rfl, fun F => VRs.cons vr_bool' (VRs.cons vr_bool' VRs.nil)⟩
  rintro h₀ L ex' A' hA' _ hgr hexs hsL hL0 hr' s' E ⟨h1, tk1, rfl, g1⟩ h1' R' hE
  have gs : Grow s.heap h₀ := g0.trans hgr
  refine (?_ : ExA w A' ⟨h₀, _, ex', d + 8⟩ _ [] _ (fun fl h' => ∀ tk, 1 ≤ tk → R (.ok (.ret (retV fl))) { s with heap := h', toks := tk })) _ _ E hr' h1' R' (fun fl h' tk h1 p => by cases fl <;> exact p tk h1)
  walk_at "AF"
  refine' ExA.newlex (dd := d + 1) rfl (EvTo.glob g_shlex) (EvTo.name (by walk_at "lk")) (EvTo.name (by walk_at "lk")) fun h₁ x dx y dy pb fk g1 hLx => ?_
  have hx1 : h₁.get? x = some (instObj 840 dx) := hLx.lx
  refine' ExA.then (X1To.setattr (pre := []) lexG_ws ?q1 ?q2 hx1 c840 (taker_of f_whitespace_split) (Nat.le_of_ble_eq_true rfl)) ?_
  case q1 => walk_at "ev"
  case q2 => exact EvTo.name (by walk_at "lk")
  walk_at "AT"
  refine' ExA.then (X1To.setattr (pre := []) lexG_cm ?q1 ?q2 hx1 c840 (taker_of f_commenters) (Nat.le_of_ble_eq_true rfl)) ?_
  case q1 => walk_at "ev"
  case q2 => exact EvTo.name (by walk_at "lk")
  refine' ExA.retcall (T := "list") (a := .ref x) ?q1 ?q2 ?_
  case q1 => exact EvTo.blt n_list boot_list
  case q2 => exact EvTo.name (by walk_at "lk")
  intro s2 Q2 E2 hr2 h12 R2 hQ2
  have hA'f : ∀ e, A' = A.deeper e → A'.frames = some (e :: l) := fun e h => by rw [h]; exact Around.frames_deeper hfr
  have hA'f := hA'f _ hA'
  have ndx : h₁.get? dx = none := R2.new dx (by simp [own])
  have ndy : h₁.get? dy = none := R2.new dy (by simp [own])
  have g12 : Grow h₀ h₁ := g1
  have gA : Grow s.heap s2.heap := (gs.trans g12).trans R2.keep
  have nd := R2.nd
  have nexy : dx ≠ dy := fun q => by subst q; simp [own] at nd
  have nLx : ∀ a, s.heap.get? a = none → ∀ b o, s.heap.get? b = some o → b ≠ a := fun a hn b o e q => by rw [q, hn] at e; cases e
  have out : ∀ b o, s.heap.get? b = some o → b ∉ [dx, dy] := fun b o e q => by
    have e1 := g12 _ _ (gs _ _ e)
    simp at q
    rcases q with q | q
    · rw [q, ndx] at e1; cases e1
    · rw [q, ndy] at e1; cases e1
  refine list_lex (d := d) (hb := h₁) (ex := exs _ _) (x := x) (dx := dx) (dy := dy) (y := y) (pb := pb) (fk := fk) (buf := buf) (ts := ts) (st := some 32) (ln := 1) ⟨R2.ok.base, hLx, ndx, ndy, by simp [exs, own], by simp [exs, own], nexy⟩ hl hr2 hA'f 0 T (Nat.zero_le _) hts h12 ⟨R2.keep, R2.alive, fun p hp => R2.mus p ?_⟩ (fun e he => ?_) fun S h3 tk3 accs c h13 en nS hS hv3 => ?_
  · exact hp
  · rcases List.mem_cons.mp he with rfl | he
    · refine ⟨by simp [envOf], L, ?_⟩
      obtain ⟨o, eo, _, nf⟩ := R2.kind (a := L) (by simp [own])
      refine ⟨o, rfl, fun q => ?_, eo, nf⟩
      simp at q
      rcases q with q | q
      · subst q; simp [own] at nd
      · subst q; simp [own] at nd
    · obtain ⟨q1, L', o, q2, q3, q4, q5⟩ := hf e he
      exact ⟨q1, L', o, q2, out _ _ q4, gA _ _ q4, q5⟩
  · have nSs : s.heap.get? S = none := by
      cases q : s.heap.get? S with
      | none => rfl
      | some o => have := gA _ _ q; rw [nS] at this; cases this
    refine hQ2 _ _ _ h13 fun tk4 h14 => hQ _ _ _ h14 ⟨fun b o hb hfs e => ?_, fun b o hb e nf => en.slots b o (out _ _ e) (gA _ _ e) nf⟩ ?_
    · refine en.keep b o (out _ _ e) (fun q => ?_) (gA _ _ e)
      have q : b ∈ L :: FS l := q
      rcases List.mem_cons.mp q with q | q
      · exact nLx _ hsL _ _ e q
      · exact hfs q
    · refine vr_list' (fz_of (fun q => ?_) hS) (VRs.mono (fun _ _ e => by cases e) _ _ hv3) (by simpa using hts)
      obtain ⟨o, e⟩ := hex _ q
      rw [nSs] at e; cases e
end
end
section
section
variable {w : World} {A : Around} {C : Fc} {ρ : Rho} {μ pre post : Mu} {PH : Flow → Heap → Prop} {P : Out → Prop} {d : Nat} {c : Addr} {co : Option AV}
theorem ExA.of {ss : List Stmt} (h : ExTo w C ρ μ ss P) (k : ∀ fl o h', P o → FRel w C fl o h' → PH fl h') : ExA w A C ρ μ ss PH :=
  fun s Q E hr h1 R hQ => h A s _ _ hr h1 R fun fl o h' tk h1' p x => hQ fl h' tk h1' (k fl o h' p x)
theorem Rel.ended {h h' : Heap} (R : Rel w C ρ μ h) (hfe : C.env.frame = some C.env.locals) (x : Ended [] [C.env] h h') : Rel w C ρ μ h' := by
  have hFS : ∀ b, b ∈ FS [C.env] → b = C.env.locals := fun b hb => by
    obtain ⟨e, he, hf⟩ := List.mem_filterMap.mp hb
    rw [List.mem_singleton] at he; subst he
    rw [hfe] at hf; exact (Option.some.inj hf).symm
  have kp : ∀ b o, b ≠ C.env.locals → h.get? b = some o → h'.get? b = some o := fun b o hb e => x.keep b o (fun q => by cases q) (fun q => hb (hFS _ q)) e
  have nd := R.nd
  unfold own at nd
  rw [List.nodup_cons] at nd
  have hF : ∀ b o, fz (exs C μ) h b = some o → fz (exs C μ) h' b = some o := fun b o e => fz_of (fz_not e) (kp _ _ (fun q => fz_not e (by rw [q]; simp [exs, own])) (fz_get e))
  refine ⟨R.ok, fun b o e => kp _ _ (fun q => ?_) (R.keep b o e), ?_, fun p hp => MRel.keep hF (fun o e => kp _ _ (fun q => ?_) e) (R.mus p hp), R.new, R.nd, R.dj, fun b hb => ?_⟩
  · rw [q, R.new _ (by simp [own])] at e; cases e
  · obtain ⟨m, ⟨o, es, ep, e, dd, z⟩, r⟩ := R.ns
    obtain ⟨sl, e2⟩ := x.slots _ _ (fun q => by cases q) e (fun vs q => by rw [dd] at q; cases q)
    exact ⟨m, ⟨_, es, ep, e2, dd, z⟩, fun y av hy => let ⟨v, hv, k⟩ := r y av hy; ⟨v, hv, VR.mono hF _ _ k⟩⟩
  · exact nd.1 (by rw [← q]; exact List.mem_map_of_mem hp)
  · obtain ⟨o, e⟩ := R.alive b hb
    by_cases q : b = C.env.locals
    · obtain ⟨m, ⟨o2, es, ep, e2, dd, z⟩, r⟩ := R.ns
      obtain ⟨sl, e3⟩ := x.slots _ _ (fun q => by cases q) e2 (fun vs q => by rw [dd] at q; cases q)
      exact ⟨_, q ▸ e3⟩
    · exact ⟨o, kp _ _ q e⟩
theorem keep852 : keepIn (KF w) (.ref 852) = true := by kernel_rfl
theorem ExA.split {x : Str} {xp np cp p : Pos} {e : PySem.Expr} {rest : List Stmt} {buf : List Nat} {ts : List (List Nat)} {dd : Nat} (hd : C.d = dd + 9) (hA : A.frames = some [C.env]) (hfe : C.env.frame = some C.env.locals) (hx : C.env.kindOf x = some .cell) (hc : C.env.cells.lookup x = some c)
    (hf : EvTo w C ρ (pre ++ (c, MO.cell co) :: post) (.Name (Str.ofString "split") np) (.val (.ref 852))) (he : EvTo w C ρ (pre ++ (c, MO.cell co) :: post) e (.str buf)) (hl : 2 * buf.length + 2 ≤ LIM) (T : Toks (some 32) 1 buf ts) (hts : ts.length ≤ LIM)
    (k : ExA w A C ρ (pre ++ (c, MO.cell (some (.list (ts.map AV.str)))) :: post) rest PH)
    (hs : swapsWith (.Call (.Name (Str.ofString "split") np) [e] [] cp) (some (.Name x xp)) p.line C.env = pure false := by rfl)
    (hst : starEach [e] C.env = (false, eval e C.env) :: starEach [] C.env := by rfl) : ExA w A C ρ (pre ++ (c, MO.cell co) :: post) (.Assign [.Name x xp] (.Call (.Name (Str.ofString "split") np) [e] [] cp) p :: rest) PH :=
  fun s Q E hr h1 R hQ => wpAny_execs_cons (wpAny_Assign_Name (by
    show wpAny _ _ (do callWith cp (← eval (.Name (Str.ofString "split") np) C.env) [] (backTo cp (starEach [e] C.env)) (backToKw cp (keywordEach [] C.env))) _ _ _
    refine wpAny_bind (hf A s _ _ hr h1 R fun v h' tk h1' g kf => ?_)
    rw [vr_val kf]
    have R1 := R.grow g
    refine callWith_K (K := KF w) (h₀ := C.h₀) R.ok.base.kin keep852 ((ArgsTo.cons he ArgsTo.nil hst) A _ _ _ hr h1' R1 fun vs h2 tk2 h12 g2 kv => ?_) hst (by rfl)
    obtain ⟨v0, r, rfl, k0, kr⟩ := (show ∃ v r, vs = v :: r ∧ VR _ (.str buf) v ∧ VRs _ [] r by unfold VRs at kv; exact kv)
    obtain rfl := (show r = [] by unfold VRs at kr; exact kr)
    have R2 := R1.grow g2
    have B2 := R2.ok.base.grow R2.keep
    refine ⟨B2.kin, wpAny_call (split_code (d := dd) (hd ▸ hr) h12 hA (fun e he => ?_) B2 R2.alive k0 hl T hts fun v3 h3 tk3 h13 en k3 => ?_)⟩
    · rw [List.mem_singleton] at he; subst he
      obtain ⟨o, eo, _, nf⟩ := R2.kind (a := C.env.locals) List.mem_cons_self
      exact ⟨by rw [R.ok.kind]; decide, C.env.locals, o, hfe, (fun q => by cases q), eo, nf⟩
    · have R3 := R2.ended hfe en
      refine store_cell R3 k3 hx hc fun h4 R4 _ => ?_
      exact k _ Q E hr h13 R4 hQ) hs)
end
noncomputable def bodyIn (K : Frag) (f : Addr) : List Stmt := match K.lookup f with
  | some ⟨_, _, .func fd, _⟩ => (match fd.body with | .stmts b => b | _ => [])
  | _ => []
noncomputable def scopeIn (K : Frag) (f : Addr) : Scope := match K.lookup f with
  | some ⟨_, _, .func fd, _⟩ => fd.scope
  | _ => default
theorem body_eq {K : Frag} {f : Addr} {oc : Value} {od : Option Addr} {fd : FuncData} {osl : Array (Option Value)} (h : K.lookup f = some ⟨oc, od, .func fd, osl⟩) {b : List Stmt} (hb : fd.body = .stmts b) : bodyIn K f = b ∧ scopeIn K f = fd.scope := by
  unfold bodyIn scopeIn
  rw [h]
  dsimp only
  rw [hb]
  exact ⟨rfl, rfl⟩
structure LawOk (ns : List Int) : Prop where
  toks : Toks (some 32) 1 (lineS (tourS ns).words ns) (tourS ns).words
  norm : ∀ k, k < (tourS ns).words.length → normS (textS ((tourS ns).words.take (k + 1))) = (tourS ns).places.getD k []
  part : ∀ k e, k + 1 < e → e ≤ (tourS ns).words.length → normS (textS ((tourS ns).places.getD k [] :: ((tourS ns).words.take e).drop (k + 1))) = (tourS ns).places.getD (e - 1) []
  join : ∀ a ps, joinS a ps = textS (a :: ps)
end
section
section
variable {w : World} {A : Around} {C : Fc} {ρ : Rho} {pre post μ : Mu} {PH : Flow → Heap → Prop} {c : Addr} {co : Option AV}
noncomputable def ExA0 (w : World) (A : Around) (C : Fc) (ρ : Rho) (μ : Mu) (ss : List Stmt) (PH : Flow → Heap → Prop) : Prop :=
  ∀ (s : Shared) (Q : Flow → Shared → Prop) (E : Value → Shared → Prop), Room C.d A → Rel w C ρ μ s.heap → (∀ fl h' tk, 1 ≤ tk → PH fl h' → Q fl { s with heap := h', toks := tk }) → wpAny (model PR w) A (execs ss C.env) Q E s
theorem assign_xy {n : Nat} {x y : Str} {xp yp tp : Pos} {a b : AV} {v : Value} {s : Shared} {Q : Unit → Shared → Prop} {E : Value → Shared → Prop} (hr : Room C.d A) (h1 : 1 ≤ s.toks) (R : Rel w C ρ (pre ++ (c, MO.cell co) :: post) s.heap) (hv : VR (fz (exs C (pre ++ (c, MO.cell co) :: post)) s.heap) (.tup [a, b]) v)
    (hx : C.env.kindOf x = some .cell) (hc : C.env.cells.lookup x = some c) (hy : C.env.kindOf y = some .local)
    (hQ : ∀ h' tk, 1 ≤ tk → Rel w C (put ρ y b) (pre ++ (c, MO.cell (some a)) :: post) h' → Q () { s with heap := h', toks := tk }) : wpAny (model PR w) A (PySem.assign (.Tuple [.Name x xp, .Name y yp] n tp) C.env v) Q E s := by
  obtain ⟨t, vs, m, rfl, e, kv, _⟩ := vr_tup hv
  have hlen := kv.length
  refine tok1 h1 (wpAny_assign_Tuple (items := vs.toArray) hr.2.2 ⟨_, fz_get e, rfl, m, rfl⟩ (by rw [List.size_toArray, hlen]; rfl) (by rfl) fun h2 hb => ?_)
  have g2 : Grow s.heap h2 := fun b o e => hb b o (Nat.ne_of_lt (Heap.lt_size e)) e
  have R2 := R.grow g2
  have kv2 := kv.grow g2
  obtain ⟨u1, r1, rfl, k1, kv2⟩ := (show ∃ v r, vs = v :: r ∧ VR _ a v ∧ VRs _ [b] r by unfold VRs at kv2; exact kv2)
  obtain ⟨u2, r2, rfl, k2, kv3⟩ := (show ∃ v r, r1 = v :: r ∧ VR _ b v ∧ VRs _ [] r by unfold VRs at kv2; exact kv2)
  obtain rfl := (show r2 = [] by unfold VRs at kv3; exact kv3)
  show wpAny _ _ (assignInOrder (PySem.assign (.Name x xp) C.env :: [PySem.assign (.Name y yp) C.env]) (u1 :: [u2])) _ _ _
  refine wpAny_assignInOrder_more (wpAny_assign_Name (store_cell R2 k1 hx hc fun h3 R3 hs3 => ?_))
  show wpAny _ _ (assignInOrder (PySem.assign (.Name y yp) C.env :: []) (u2 :: [])) _ _ _
  refine wpAny_assignInOrder_more (wpAny_assign_Name ?_)
  have k2' := VR.mono (fz_same (ex := exs C (pre ++ (c, MO.cell co) :: post)) (by unfold exs own; simp) hs3) _ _ k2
  have ee : exs C (pre ++ (c, MO.cell (some a)) :: post) = exs C (pre ++ (c, MO.cell co) :: post) := by simp [exs, own]
  rw [← ee] at k2'
  refine store_local R3 k2' hy fun h4 tk4 R4 => ?_
  exact wpAny_assignInOrder_none (fun h14 => hQ h4 _ h14 R4)
theorem ExA0.tour {n : Nat} {x y f z : Str} {xp yp tp fp zp cp p : Pos} {a b : AV} {fa : Addr} {zv : Value} {PP : Heap → Prop} {rest : List Stmt} (hf : nsIn (KF w) mainGlobals f = some (some (.ref fa))) (hz : ρ.lookup z = some (.val zv)) (hcall : CallsToP0 w C.d PP (.ref fa) [.val zv] (.tup [a, b])) (hkeep : keepIn (KF w) (.ref fa) = true)
    (hp : PP C.h₀) (hg : ∀ h h', PP h → Grow h h' → PP h') (hx : C.env.kindOf x = some .cell) (hc : C.env.cells.lookup x = some c) (hy : C.env.kindOf y = some .local) (hkf : C.env.kindOf f = some .globalImplicit) (hkz : C.env.kindOf z = some .local)
    (k : ExA w A C (put ρ y b) (pre ++ (c, MO.cell (some a)) :: post) rest PH)
    (hdf : (f == ("__debug__" : Str)) = false := by decide) (hdz : (z == ("__debug__" : Str)) = false := by decide) (hst : starEach [.Name z zp] C.env = (false, eval (.Name z zp) C.env) :: starEach [] C.env := by rfl)
    (hs : swapsWithSole [.Tuple [.Name x xp, .Name y yp] n tp] (.Call (.Name f fp) [.Name z zp] [] cp) p.line C.env = pure false := by rfl) (hw : swappedStores [.Tuple [.Name x xp, .Name y yp] n tp] (.Call (.Name f fp) [.Name z zp] [] cp) C.env = pure Option.none := by rfl) :
    ExA0 w A C ρ (pre ++ (c, MO.cell co) :: post) (.Assign [.Tuple [.Name x xp, .Name y yp] n tp] (.Call (.Name f fp) [.Name z zp] [] cp) p :: rest) PH :=
  fun s Q E hr R hQ => wpAny_execs_cons (Assign_Tuple (by
    show wpAny _ _ (do callWith cp (← eval (.Name f fp) C.env) [] (backTo cp (starEach [.Name z zp] C.env)) (backToKw cp (keywordEach [] C.env))) _ _ _
    obtain ⟨_, _, _, mg, mb, T⟩ := R.ok.base.top
    refine wpAny_bind (Calls.Name_function_global R.ok.kind hkf (Calls.loadGlobal_global (mg := mg) (by rw [R.ok.glob]; exact T.g.keeps R.keep) (mg_of R.ok.base.kin T.g hf) ?_) hdf)
    obtain ⟨m, hn, r⟩ := R.ns
    obtain ⟨v, hv, kz⟩ := r z _ hz
    refine callWith_K (K := KF w) (h₀ := C.h₀) R.ok.base.kin hkeep ?_ hst (by rfl)
    rw [hst]
    refine Calls.spliced_cons (wpAny_Name (wpAny_loadName_local R.ok.kind hkz hn hv (Calls.spliced_nil ?_)) hdz)
    have B := R.ok.base.grow R.keep
    refine ⟨B.kin, hcall A s (exs C _) [v] _ _ hr B (hg _ _ hp R.keep) R.alive (VRs.cons kz VRs.nil) fun v3 h3 tk3 h13 g3 k3 => ?_⟩
    refine assign_xy (hr := hr) (h1 := h13) (R := R.grow g3) (hv := k3) hx hc hy fun h4 tk4 h14 R4 => ?_
    exact k _ Q E hr h14 R4 hQ) hs hw)
end
section
variable {w : World} {d : Nat}
theorem law_walk {A : Around} {h₀ : Heap} {L fa a : Addr} {cd : Value} {ns : List Int} {dd : Nat} (hn : ns.length ≤ 63) (hS : Scr a ns h₀) (P : LawOk (ns.take 6)) (hA : A.frames = some [envOfC (Str.ofString "law") (scopeIn (KF w) 891) L fa cd]) :
    ExA0 w A ⟨h₀, envOfC (Str.ofString "law") (scopeIn (KF w) 891) L fa cd, [], dd + 9⟩ [(Str.ofString "script", .val (.ref a))] [(L + 1, .cell none), (L + 2, .cell none)] (bodyIn (KF w) 891) (fun fl h' => fl = .ret (.bool true) ∧ Grow h₀ h') := by
  obtain ⟨eb, es⟩ := body_eq (K := KF w) (f := 891) (by rfl) (by rfl)
  rw [eb, es]
  rw [es] at hA
  clear eb es
  have h6 : (ns.take 6).length ≤ 6 := by rw [List.length_take]; (first | lia | omega)
  have hLIM : LIM = 1048576 := rfl
  have hT : Small (tourS (ns.take 6)) (ns.take 6).length := by
    have := small_take (ns.take 6) h6 (ns.take 6).length (Nat.le_refl _)
    rwa [List.take_length] at this
  have Pt := P.toks
  have Pn := P.norm
  have Pp := P.part
  have Pj := P.join
  have htour := tour_ok0 (w := w) (d := dd + 8) (a := a) hn
  generalize (tourS (ns.take 6)) = T at hT Pt Pn Pp htour
  have hwl : T.words.length = (ns.take 6).length + 1 := hT.words
  have hpl : T.places.length = (ns.take 6).length + 1 := hT.places
  have hw1 : ∀ u ∈ T.words, u.length ≤ 1000 := fun u hu => Nat.le_trans (hT.word u hu) (by decide)
  have hp1 : ∀ u ∈ T.places, u.length ≤ 1000 := fun u hu => Nat.le_trans (hT.place u hu) (by decide)
  have hll := lineS_len hw1 (fun u q => hw1 u (List.mem_of_getElem? q)) (ns.take 6)
  have hline := line_ok (w := w) (d := dd + 6) (a := a) hw1 hn hwl
  generalize lineS T.words (ns.take 6) = buf at Pt hll hline
  generalize T.words = ws at *
  generalize T.places = pl at *
  generalize (ns.take 6).length = n at *
  refine' ExA0.tour (pre := []) (c := L + 1) (a := S ws) (b := S pl) g_law_tour ?q1 htour ?q2 hS (fun _ _ => Scr.grow) ?q3 ?q4 ?q5 ?q6 ?q7 ?_
  case q1 => walk_at "lk"
  case q2 => kernel_rfl
  case q3 => rfl
  case q4 => rfl
  case q5 => rfl
  case q6 => rfl
  case q7 => rfl
  refine' ExA.split (pre := [(L + 1, MO.cell (some (S ws)))]) (post := []) (c := L + 2) (co := none) (dd := dd) (buf := buf) (ts := ws) rfl hA rfl ?q6 ?q7 (EvTo.glob g_split) (EvTo.callP (EvTo.glob g_law_line) (ArgsTo.cons (av := S ws) ?q8 (ArgsTo.cons (av := .val (.ref a)) ?q9 ArgsTo.nil)) hline ?q10 hS (fun _ _ => Scr.grow)) (by (first | lia | omega)) Pt (by (first | lia | omega)) ?_
  case q6 => rfl
  case q7 => rfl
  case q8 => exact EvTo.cell (List.Mem.head _)
  case q9 => exact EvTo.name (by walk_at "lk")
  case q10 => exact cal_f (by rfl) (by rfl)
  refine' ExA.of (P := fun o => ∃ ρ' μ', o = .ret (.bool true) ρ' μ') ?_ ?_
  case refine'_2 =>
    rintro fl _ h' ⟨ρ', μ', rfl⟩ ⟨v, rfl, R, k⟩
    exact ⟨by rw [vr_bool k], R.keep⟩
  show ExTo w _ _ [(L + 1, MO.cell (some (S ws))), (L + 2, MO.cell (some (S ws)))] _ _
  have hn6 : n ≤ 6 := h6
  clear h6 hll hline htour Pt hS hA
  have hsome : ∀ k, k < ws.length → ∃ b ps, ws.take (k + 1) = b :: ps := fun k hk => by
    cases hws : ws with
    | nil => rw [hws] at hk; exact absurd hk (Nat.not_lt_zero _)
    | cons b r => exact ⟨b, r.take k, rfl⟩
  have hsum : ∀ l : List (List Nat), (∀ u ∈ l, u.length ≤ 1000) → (l.map (·.length)).sum ≤ 1000 * l.length := by
    intro l
    induction l with
    | nil => intro _; simp
    | cons b r ih =>
      intro h
      have := h b (by simp)
      have := ih fun u hu => h u (by simp [hu])
      simp only [List.map_cons, List.sum_cons, List.length_cons]
      (first | lia | omega)
  have htl : ∀ k, ∀ u ∈ ws.take k, u.length ≤ 1000 := fun k u hu => hw1 u (List.mem_of_mem_take hu)
  have htn : ∀ k, (ws.take k).length ≤ 7 := fun k => by rw [List.length_take]; (first | lia | omega)
  refine' ExTo.iff (c := ws != ws) (TrTo.cmp ?q1 ?q2 op_nel) (fun h => absurd h (by simp)) (fun _ => ?_)
  case q1 => exact EvTo.cell (List.Mem.tail _ (List.Mem.head _))
  case q2 => exact EvTo.cell (List.Mem.head _)
  walk_at "app"
  have ejs : ∀ (f : Nat → List Nat), (List.range (rangeOf ws.length).length).filterMap (fun k => some (AV.str (f k))) = ((List.range ws.length).map f).map AV.str := fun f => by
    rw [show (rangeOf ws.length).length = ws.length by simp [rangeOf], show (fun k => some (AV.str (f k))) = some ∘ (fun k => AV.str (f k)) from rfl, List.filterMap_eq_map, List.map_map]; rfl
  have hjoin : ∀ k, k < ws.length → CallsTo w (dd + 9) (.ref 138) ((ws.take (k + 1)).map AV.str) (.str (textS (ws.take (k + 1)))) := fun k hk => by
    obtain ⟨b, ps, e⟩ := hsome k hk
    have h1 := hsum _ (htl (k + 1))
    have h2 := htn (k + 1)
    rw [e] at h1 h2 ⊢
    simp only [List.map_cons, List.sum_cons, List.length_cons] at h1 h2 ⊢
    rw [← Pj]
    exact join_ok (d := dd + 7) (by (first | lia | omega))
  refine' ExTo.then (X1To.assignc (xs := rangeOf ws.length) [(Str.ofString "told", L + 2)] (fun k => some (AV.str (textS (ws.take (k + 1))))) (ItTo.range ?q1 (EvTo.call (avs := [S ws]) ?q2 (ArgsTo.cons ?q3 ArgsTo.nil) ?q4 cal_b) (by (first | lia | omega))) ?q5 ?q6 ?q7 (by rfl) (by decide) rfl (by decide) rfl) ?_
  case q1 => walk_at "ev"
  case q2 => walk_at "ev"
  case q3 => exact EvTo.cell (List.Mem.tail _ (List.Mem.head _))
  case q4 => have := call_lenl (w := w) (d := dd + 9) (xs := ws.map AV.str); rwa [List.length_map] at this
  case q7 => simp [rangeOf]; (first | lia | omega)
  case q5 => intro _ _ _ _ _ _ _; rfl
  case q6 =>
    intro h₀' L' D i av y acc hav hy
    rw [rangeOf_get] at hav
    split at hav
    · rename_i hi
      cases hav
      cases hy
      refine' EvTo.callS (avs := (ws.take (i + 1)).map AV.str) (EvTo.glob g_join_posixpath) ?r1 (hjoin i hi) (by kernel_rfl)
      case r1 =>
        have e : ws.take (i + 1) = sl ws none (some ((i + 1 : Nat) : Int)) := (sl_to ws (i + 1)).symm
        rw [e]
        refine EvTo.sliceS (EvTo.cell (List.Mem.tail _ (List.Mem.tail _ (List.Mem.head _)))) PartTo.non (PartTo.som ?_)
        exact EvTo.binop (EvTo.name (by walk_at "lk")) EvTo.cint op_addi
    · cases hav
  rw [ejs (fun k => textS (ws.take (k + 1)))]
  generalize ejo : (List.range ws.length).map (fun k => textS (ws.take (k + 1))) = js
  refine' ExTo.iff (c := js != js) (TrTo.cmp (EvTo.name (by walk_at "lk")) ?q1 op_nel) (fun h => absurd h (by simp)) (fun _ => ?_)
  case q1 =>
    rw [← ejo, ← ejs (fun k => textS (ws.take (k + 1)))]
    refine' EvTo.comp (xs := rangeOf ws.length) [(Str.ofString "words", L + 1)] (fun k => some (AV.str (textS (ws.take (k + 1))))) (ItTo.range ?q1 (EvTo.call (avs := [S ws]) ?q2 (ArgsTo.cons ?q3 ArgsTo.nil) ?q4 cal_b) (by (first | lia | omega))) ?q5 ?q6 ?q7 (by rfl) (by decide) rfl (by decide) rfl
    case q1 => walk_at "ev"
    case q2 => walk_at "ev"
    case q3 => exact EvTo.cell (List.Mem.head _)
    case q4 => have := call_lenl (w := w) (d := dd + 9) (xs := ws.map AV.str); rwa [List.length_map] at this
    case q7 => simp [rangeOf]; (first | lia | omega)
    case q5 => intro _ _ _ _ _ _ _; rfl
    case q6 =>
      intro h₀' L' D i av y acc hav hy
      rw [rangeOf_get] at hav
      split at hav
      · rename_i hi
        cases hav
        cases hy
        refine' EvTo.call (avs := [S (ws.take (i + 1))]) (EvTo.glob g_law_text) (ArgsTo.cons ?r1 ArgsTo.nil) (text_ok (d := dd + 8) (htl (i + 1)) (Nat.le_trans (htn (i + 1)) (by decide)) (by rw [List.length_take]; (first | lia | omega))) (cal_f (by rfl) (by rfl))
        case r1 =>
          have e : ws.take (i + 1) = sl ws none (some ((i + 1 : Nat) : Int)) := (sl_to ws (i + 1)).symm
          rw [e]
          refine EvTo.sliceS (EvTo.cell (List.Mem.tail _ (List.Mem.head _))) PartTo.non (PartTo.som ?_)
          exact EvTo.binop (EvTo.name (by walk_at "lk")) EvTo.cint op_addi
      · cases hav
  walk_at "app"
  refine' ExTo.cons (P1 := fun o => ∃ ρ', o = .next ρ' [(L + 1, MO.cell (some (S ws))), (L + 2, MO.cell (some (S ws)))] ∧ ρ'.lookup (Str.ofString "places") = some (S pl) ∧ ρ'.lookup (Str.ofString "joined") = some (S js))
    (X1To.forr (n := n) (fun i ρ' μ' => μ' = [(L + 1, MO.cell (some (S ws))), (L + 2, MO.cell (some (S ws)))] ∧ ρ'.lookup (Str.ofString "places") = some (S pl) ∧ ρ'.lookup (Str.ofString "joined") = some (S js)) ?q1 ?q2 (by (first | lia | omega)) ⟨rfl, ?q3, ?q4⟩ ?q5 ?q6) ?q7 (by rintro _ _ ⟨_, e, _⟩; cases e) (by rintro _ _ ⟨_, e, _⟩; cases e) (by rintro _ _ _ ⟨_, e, _⟩; cases e)
  case q1 => walk_at "ev"
  case q2 =>
    have e : (n : Int) = (ws.length : Int) - 1 := by (first | lia | omega)
    rw [e]
    refine' EvTo.binop (EvTo.call (avs := [S ws]) ?u2 (ArgsTo.cons ?u3 ArgsTo.nil) ?u4 cal_b) EvTo.cint op_subi
    case u2 => walk_at "ev"
    case u3 => exact EvTo.cell (List.Mem.tail _ (List.Mem.head _))
    case u4 => have := call_lenl (w := w) (d := dd + 9) (xs := ws.map AV.str); rwa [List.length_map] at this
  case q3 => walk_at "lk"
  case q4 => walk_at "lk"
  case q6 =>
    rintro ρ' μ' ⟨rfl, h1, h2⟩
    exact ⟨ρ', rfl, h1, h2⟩
  case q5 =>
    rintro h₀' k ρ' μ' hk ⟨rfl, hpl', hjs'⟩
    refine' ExTo.cons (P1 := fun o => ∃ ρ', o = .next ρ' [(L + 1, MO.cell (some (S ws))), (L + 2, MO.cell (some (S ws)))] ∧ ρ'.lookup (Str.ofString "places") = some (S pl) ∧ ρ'.lookup (Str.ofString "joined") = some (S js))
      (X1To.fort (xs := [AV.int (k + 2), AV.int ws.length]) (fun i ρ' μ' => μ' = [(L + 1, MO.cell (some (S ws))), (L + 2, MO.cell (some (S ws)))] ∧ ρ'.lookup (Str.ofString "places") = some (S pl) ∧ ρ'.lookup (Str.ofString "joined") = some (S js) ∧ ρ'.lookup (Str.ofString "k") = some (.int k)) ?v2 ⟨rfl, ?v3, ?v4, ?v5⟩ ?v6 ?v7) ?v8 (by rintro _ _ ⟨_, e, _⟩; cases e) (by rintro _ _ ⟨_, e, _⟩; cases e) (by rintro _ _ _ ⟨_, e, _⟩; cases e)
    case v2 =>
      refine' EvTo.tup (ArgsTo.cons ?x1 (ArgsTo.cons (EvTo.call (avs := [S ws]) ?x2 (ArgsTo.cons ?x3 ArgsTo.nil) ?x4 cal_b) ArgsTo.nil)) (hl := Nat.le_of_ble_eq_true rfl)
      case x1 => exact EvTo.binop (EvTo.name (by walk_at "lk")) EvTo.cint op_addi
      case x2 => walk_at "ev"
      case x3 => exact EvTo.cell (List.Mem.tail _ (List.Mem.head _))
      case x4 => have := call_lenl (w := w) (d := dd + 9) (xs := ws.map AV.str); rwa [List.length_map] at this
    case v3 => walk_at "lk"
    case v4 => walk_at "lk"
    case v5 => walk_at "lk"
    case v7 =>
      rintro ρ' μ' ⟨rfl, h1, h2, _⟩
      exact ⟨ρ', rfl, h1, h2⟩
    case v8 =>
      rintro ρ' _ ⟨_, e, h1, h2⟩
      cases e
      exact ExTo.nil ⟨rfl, h1, h2⟩
    case v6 =>
      rintro h₀' i v ρ' μ' hv ⟨rfl, hpl', hjs', hk'⟩
      obtain ⟨e, rfl, he1, he2⟩ : ∃ e : Nat, v = .int e ∧ k + 1 < e ∧ e ≤ ws.length := by
        match i, hv with
        | 0, hv => cases hv; exact ⟨k + 2, rfl, by (first | lia | omega), by (first | lia | omega)⟩
        | 1, hv => cases hv; exact ⟨ws.length, rfl, by (first | lia | omega), by (first | lia | omega)⟩
      clear hv
      have hkp : k < pl.length := by (first | lia | omega)
      have hpk : (pl.getD k []).length ≤ 1000 := by
        rw [List.getD_eq_getElem?_getD, List.getElem?_eq_getElem hkp]; exact hp1 _ (List.getElem_mem hkp)
      have hmid : ∀ u ∈ (ws.take e).drop (k + 1), u.length ≤ 1000 := fun u hu => htl e u (List.mem_of_mem_drop hu)
      have hmn : ((ws.take e).drop (k + 1)).length ≤ 7 := by have := htn e; rw [List.length_drop]; (first | lia | omega)
      have hms := hsum _ hmid
      have em : (ws.take e).drop (k + 1) = sl ws (some ((k + 1 : Nat) : Int)) (some ((e : Nat) : Int)) := by rw [sl_nat ws (k + 1) e (by (first | lia | omega)), List.drop_take]
      have hPp := Pp k e he1 he2
      have htx : (textS (pl.getD k [] :: (ws.take e).drop (k + 1))).length ≤ 10000 := by
        rw [← Pj]
        have := joinS_len ((ws.take e).drop (k + 1)) (pl.getD k [])
        (first | lia | omega)
      have hj : CallsTo w (dd + 9) (.ref 138) (.str (pl.getD k []) :: (((ws.take e).drop (k + 1)).map AV.str ++ [])) (.str (textS (pl.getD k [] :: (ws.take e).drop (k + 1)))) := by
        rw [List.append_nil, ← Pj]
        exact join_ok (d := dd + 7) (by (first | lia | omega))
      have hmid' : ∀ u ∈ pl.getD k [] :: (ws.take e).drop (k + 1), u.length ≤ 1000 := fun u hu => by
        rcases List.mem_cons.mp hu with rfl | hu
        · exact hpk
        · exact hmid u hu
      generalize emid : (ws.take e).drop (k + 1) = mid at *
      generalize eb : textS (pl.getD k [] :: mid) = tx at *
      refine' ExTo.then (X1To.assign (av := .str tx) (EvTo.callS2 (avs := .str (pl.getD k []) :: (mid.map AV.str ++ [])) (EvTo.glob g_join_posixpath) (ArgsTo.cons (EvTo.itl (k := k) (EvTo.name ?y1) (EvTo.name ?y2) (Int.natCast_nonneg _) (menu hkp)) (ArgsTo.star ?y3 ArgsTo.nil)) hj (by kernel_rfl))) ?_
      case y1 => walk_at "lk"
      case y2 => walk_at "lk"
      case y3 =>
        show EvTo _ _ _ _ _ (S mid)
        rw [em]
        refine EvTo.sliceS (EvTo.cell (List.Mem.tail _ (List.Mem.head _))) (PartTo.som ?_) (PartTo.som (EvTo.name (by walk_at "lk")))
        exact EvTo.binop (EvTo.name (by walk_at "lk")) EvTo.cint op_addi
      refine' ExTo.iff (c := (tx != tx || (normS tx != pl.getD (e - 1) [] || false))) (TrTo.boolop (ATo.or (TrTo.cmp (EvTo.name ?y1) ?y2 op_nes) (fun _ => ATo.or (TrTo.cmp ?y3 ?y4 op_nes) (fun _ => ATo.orNil)))) (fun h => absurd h (by simp [hPp])) (fun _ => ?_)
      case y1 => walk_at "lk"
      case y2 =>
        rw [← eb]
        refine' EvTo.call (avs := [S (pl.getD k [] :: mid)]) (EvTo.glob g_law_text) (ArgsTo.cons ?z1 ArgsTo.nil) (text_ok (d := dd + 8) hmid' (by simp only [List.length_cons]; (first | lia | omega)) (by simp only [List.length_cons]; (first | lia | omega))) (cal_f (by rfl) (by rfl))
        case z1 =>
          show EvTo _ _ _ _ _ (S ([pl.getD k []] ++ mid))
          refine' EvTo.binop (a := S [pl.getD k []]) (b := S mid) (EvTo.list (ArgsTo.cons (EvTo.itl (k := k) (EvTo.name ?z2) (EvTo.name ?z3) (Int.natCast_nonneg _) (menu hkp)) ArgsTo.nil) (Nat.le_of_ble_eq_true rfl)) ?z4 (op_addS (by simp only [List.length_cons, List.length_nil]; (first | lia | omega)))
          case z2 => walk_at "lk"
          case z3 => walk_at "lk"
          case z4 =>
            rw [em]
            refine EvTo.sliceS (EvTo.cell (List.Mem.head _)) (PartTo.som ?_) (PartTo.som (EvTo.name (by walk_at "lk")))
            exact EvTo.binop (EvTo.name (by walk_at "lk")) EvTo.cint op_addi
      case y3 =>
        refine' EvTo.call (avs := [.str tx]) (EvTo.glob g_normpath) (ArgsTo.cons (EvTo.name ?z1) ArgsTo.nil) (normpath_ok (d := dd + 6) (by (first | lia | omega))) (cal_f (by rfl) (by rfl))
        case z1 => walk_at "lk"
      case y4 =>
        refine' EvTo.itl (k := (e : Int) - 1) (EvTo.name ?z1) (EvTo.binop (EvTo.name ?z2) EvTo.cint op_subi) (by (first | lia | omega)) ?z3
        case z1 => walk_at "lk"
        case z2 => walk_at "lk"
        case z3 =>
          have : ((e : Int) - 1).toNat = e - 1 := by (first | lia | omega)
          rw [this]
          exact menu (by (first | lia | omega))
      exact ExTo.nil ⟨rfl, by walk_at "lk", by walk_at "lk", by walk_at "lk"⟩
  case q7 =>
    rintro ρ' _ ⟨_, e, hpl', hjs'⟩
    cases e
    refine' ExTo.ret (av := .bool (js.map normS == pl)) (EvTo.cmp ?y1 (EvTo.name hpl') op_eql) ?y2
    case y1 =>
      have eys : (List.range (js.map AV.str).length).filterMap (fun k => some (AV.str (normS (js.getD k [])))) = (js.map normS).map AV.str := by
        rw [show (fun k => some (AV.str (normS (js.getD k [])))) = some ∘ (fun k => AV.str (normS (js.getD k []))) from rfl, List.filterMap_eq_map, List.length_map]
        conv => rhs; rw [← range_getD js, List.map_map, List.map_map]
        rfl
      rw [← eys]
      refine' EvTo.comp (xs := js.map AV.str) [] _ (ItTo.list (EvTo.name hjs')) ?z1 ?z2 ?z3 (by rfl) (by decide) rfl (by decide) rfl
      case z1 => intro _ _ _ _ _ _ _; rfl
      case z3 => rw [← ejo]; simp; (first | lia | omega)
      case z2 =>
        intro h₀' L' D i av y acc hav hy
        rw [List.getElem?_map] at hav
        cases hx : js[i]? with
        | none => rw [hx] at hav; cases hav
        | some x =>
        rw [hx] at hav
        cases hav
        have ex : js.getD i [] = x := by rw [List.getD_eq_getElem?_getD, hx]; rfl
        rw [ex] at hy
        cases hy
        have hx' := hx
        rw [← ejo, List.getElem?_map] at hx'
        have hxl : x.length ≤ 10000 := by
          cases hr : (List.range ws.length)[i]? with
          | none => rw [hr] at hx'; cases hx'
          | some k =>
            rw [hr] at hx'
            have hxe : textS (ws.take (k + 1)) = x := Option.some.inj hx'
            have hk : k < ws.length := List.mem_range.mp (List.mem_of_getElem? hr)
            obtain ⟨b, ps, eq⟩ := hsome k hk
            have h1 := hsum _ (htl (k + 1))
            have h2 := htn (k + 1)
            rw [← hxe, eq, ← Pj]
            rw [eq] at h1 h2
            simp only [List.map_cons, List.sum_cons, List.length_cons] at h1 h2
            have := joinS_len ps b
            (first | lia | omega)
        refine' EvTo.call (avs := [.str x]) (EvTo.glob g_normpath) (ArgsTo.cons (EvTo.name ?w1) ArgsTo.nil) (normpath_ok (d := dd + 6) (by (first | lia | omega))) (cal_f (by rfl) (by rfl))
        case w1 => walk_at "lk"
    case y2 =>
      have : js.map normS = pl := by
        rw [← ejo, List.map_map]
        refine List.ext_getElem (by simp; (first | lia | omega)) fun i h1 h2 => ?_
        have hi : i < ws.length := by simpa using h1
        have := Pn i hi
        rw [List.getD_eq_getElem?_getD, List.getElem?_eq_getElem h2] at this
        simpa using this
      rw [this]
      rw [show (pl == pl) = true by simp]
      exact ⟨_, _, rfl⟩
end
end
section
theorem law_end (hlaw : ∀ ns : List Int, ns.length ≤ 6 → LawOk ns) {w : World} {h0 h1 : Heap} {g : Array GenState} {d : Drawn} {os : OsState} {tk : Nat} {fa a cda : Addr} {ns : List Int} {vs : List Value} {o1 o2 : Obj} {m : Str → Option Value} {p : Program} {loose : List Str} {mean : ExcName → Option Value} {mg mb : Str → Option Value} {qk : Flow → Shared → Prop} {ek : Value → Shared → Prop}
    (T : Top p loose mean mg mb h0) (KX : (KF w).In h0) (hseer : h0.NoSeer) (hL : h0.IsList a vs.toArray) (hI : IntsAre vs ns) (hn : ¬ (63 : Int) < (ns.length : Int)) (F : Fr h0 h0.objs.size h1 m) (hm : m (Str.ofString "script") = some (.ref a)) (N : News h0 h0.objs.size h1 [(h0.objs.size + 1 + 1, o2), (h0.objs.size + 1, o1)])
    (d2 : o2.data = .cell none) (d1 : o1.data = .cell none) (hq : ∀ h' tk', Grow h0 h' → qk (.ret (.bool true)) ⟨h', g, d, tk', os⟩) :
    wpAny (model PR w) (callerA.deeper (envOfC (Str.ofString "law") (scopeIn (KF w) 891) h0.objs.size fa (.ref cda))) (execs (bodyIn (KF w) 891) (envOfC (Str.ofString "law") (scopeIn (KF w) 891) h0.objs.size fa (.ref cda))) qk ek ⟨h1, g, d, tk, os⟩ := by
  have hn' : ns.length ≤ 63 := by (first | lia | omega)
  have hsc : scopeIn (KF w) 891 = scopeIn (KF w) 891 := rfl
  have e1 := N _ (List.mem_cons_of_mem _ List.mem_cons_self)
  have e2 := N _ List.mem_cons_self
  have R : Rel w ⟨h0, envOfC (Str.ofString "law") (scopeIn (KF w) 891) h0.objs.size fa (.ref cda), [], 0 + 9⟩ [(Str.ofString "script", .val (.ref a))] [(h0.objs.size + 1, .cell none), (h0.objs.size + 2, .cell none)] h1 := by
    refine ⟨⟨⟨KX, ⟨p, loose, mean, mg, mb, T⟩, hseer⟩, (by rfl), rfl, rfl⟩, F.keep, ⟨m, F.ns, fun x av e => ?_⟩, fun p hp => ?_, fun b hb => ?_, ?_, fun _ _ q => (by cases q), fun b hb => ?_⟩
    · by_cases q : x = Str.ofString "script"
      · subst q
        have : av = .val (.ref a) := by
          have e' : (some (AV.val (.ref a))) = some av := e
          exact (Option.some.inj e').symm
        subst this
        exact ⟨_, hm, vr_val'⟩
      · rw [lk_cons, if_neg q] at e; cases e
    · rcases List.mem_cons.mp hp with rfl | hp
      · exact ⟨_, e1.1, d1⟩
      · rw [List.mem_singleton] at hp; subst hp
        exact ⟨_, e2.1, d2⟩
    · rcases List.mem_cons.mp hb with rfl | hb
      · exact get?_size_none _
      · rcases List.mem_cons.mp hb with rfl | hb
        · exact e1.2.2
        · rcases List.mem_cons.mp hb with rfl | hb
          · exact e2.2.2
          · cases hb
    · show [h0.objs.size, h0.objs.size + 1, h0.objs.size + 2].Nodup
      simp
    · rcases List.mem_cons.mp hb with rfl | hb
      · obtain ⟨o, _, _, e, _⟩ := F.ns; exact ⟨o, e⟩
      · rcases List.mem_cons.mp hb with rfl | hb
        · exact ⟨_, e1.1⟩
        · rcases List.mem_cons.mp hb with rfl | hb
          · exact ⟨_, e2.1⟩
          · cases hb
  have hfr : (callerA.deeper (envOfC (Str.ofString "law") (scopeIn (KF w) 891) h0.objs.size fa (.ref cda))).frames = some [envOfC (Str.ofString "law") (scopeIn (KF w) 891) h0.objs.size fa (.ref cda)] := Around.frames_deeper rfl
  have hgen : (envOfC (Str.ofString "law") (scopeIn (KF w) 891) h0.objs.size fa (.ref cda)).scope.isGenerator = false := (show (scopeIn (KF w) 891).isGenerator = false by rfl)
  have hco : (envOfC (Str.ofString "law") (scopeIn (KF w) 891) h0.objs.size fa (.ref cda)).scope.isCoroutine = false := (show (scopeIn (KF w) 891).isCoroutine = false by rfl)
  have hdep : callerA.depth + 1 + 9 + 120 < recursionLimit := by decide
  have huni : callerA.units + 3 + 10 * 9 + 100 < cLine := by decide
  have hroom : Room 9 (callerA.deeper (envOfC (Str.ofString "law") (scopeIn (KF w) 891) h0.objs.size fa (.ref cda))) := ⟨⟨hdep, _, [], hfr, hgen, hco, rfl, rfl⟩, huni, rfl⟩
  have hw := law_walk (dd := 0) (a := a) hn' ⟨vs, hL, hI⟩ (hlaw _ (by rw [List.length_take]; (first | lia | omega))) hfr
  exact hw ⟨h1, g, d, tk, os⟩ qk ek hroom R fun fl h' tk' _ hp => by
    obtain ⟨rfl, gg⟩ := hp
    exact hq h' tk' gg
end
end Mine
end

section
set_option Elab.async false
set_option maxRecDepth 100000
set_option linter.all false
open PySem
namespace Mine
theorem snoc_ind {α : Type} {P : List α → Prop} (h0 : P []) (h1 : ∀ l a, P l → P (l ++ [a])) (l : List α) : P l := by
  have : ∀ n (l : List α), l.length = n → P l := by
    intro n
    induction n with
    | zero => intro l hl; rw [List.length_eq_zero_iff.mp hl]; exact h0
    | succ n ih =>
      intro l hl
      rcases List.eq_nil_or_concat l with rfl | ⟨r, z, rfl⟩
      · exact h0
      · rw [List.concat_eq_append] at hl ⊢
        exact h1 r z (ih r (by rw [List.length_append, List.length_singleton] at hl; (first | lia | omega)))
  exact this _ l rfl
theorem jn_nil : ∀ l : List (List Nat), jn [] l = l.flatten
  | [] => rfl
  | [x] => by simp [jn]
  | x :: y :: r => by
    have := jn_nil (y :: r)
    simp only [jn, List.append_nil, this, List.flatten_cons]
theorem sl_lastdrop {α : Type} (x : List α) : sl x none (some (-1)) = x.dropLast := by
  unfold sl
  simp only [Option.elim]
  rw [List.drop_zero, Nat.sub_zero, List.dropLast_eq_take]
  congr 1
  unfold clipAt
  split
  · (first | lia | omega)
  · (first | lia | omega)
theorem sl_tail {α : Type} (x : List α) : sl x (some (-1)) none = x.drop (x.length - 1) := by
  unfold sl
  simp only [Option.elim]
  have e : clipAt x.length (-1) = x.length - 1 := by
    unfold clipAt
    split
    · (first | lia | omega)
    · (first | lia | omega)
  rw [e]
  exact List.take_of_length_le (by rw [List.length_drop]; (first | lia | omega))
theorem sl_head (x : List Nat) : sl x none (some 1) = x.take 1 := sl_to x 1
theorem isAbs_iff (x : List Nat) : isAbs x = (x.head? == some 47) := by
  unfold isAbs
  rw [sl_head]
  cases x with
  | nil => rfl
  | cons a r =>
    show ([a] == [47]) = (some a == some 47)
    by_cases h : a = 47
    · subst h; rfl
    · rw [beq_eq_false_iff_ne.mpr (by simpa using h), beq_eq_false_iff_ne.mpr (by simpa using h)]
theorem tailOf_iff (u : List Nat) : ([lit "", lit "/"].any (· == tailOf u)) = (u.isEmpty || u.getLast? == some 47) := by
  unfold tailOf
  rw [sl_tail]
  rcases List.eq_nil_or_concat u with rfl | ⟨r, z, rfl⟩
  · rfl
  · rw [List.concat_eq_append, List.length_append, List.length_singleton, Nat.add_sub_cancel, List.drop_append_of_le_length (Nat.le_refl _), List.drop_length, List.nil_append, List.getLast?_append]
    have : (r ++ [z]).isEmpty = false := by simp
    rw [this]
    show (([] : List Nat) == [z] || (([47] : List Nat) == [z] || false)) = (false || (some z == some 47))
    by_cases h : z = 47
    · subst h; rfl
    · rw [beq_eq_false_iff_ne.mpr (show ([47] : List Nat) ≠ [z] by simpa using Ne.symm h), beq_eq_false_iff_ne.mpr (show (some z : Option Nat) ≠ some 47 by simpa using h)]
      rfl
noncomputable def Gl (rs : List (List Nat)) : List Nat := (glueS rs).flatten
noncomputable def close (t : List Nat) : List Nat := if t.isEmpty then [] else slashed t
noncomputable def txS (rs : List (List Nat)) : List Nat := if !([lit "", lit "/"].any (· == tailOf (rs.getLastD []))) then (Gl rs).dropLast else Gl rs
theorem textS_eq (ws : List (List Nat)) : textS ws = txS (restS ws) := by
  unfold textS txS Gl
  rw [sl_lastdrop, show jn (lit "") (glueS (restS ws)) = (glueS (restS ws)).flatten from jn_nil _]
theorem Gl_app (rs : List (List Nat)) (b : List Nat) : Gl (rs ++ [b]) = Gl rs ++ close b := by
  unfold Gl glueS close
  rw [List.filter_append, List.map_append, List.flatten_append]
  congr 1
  cases b with
  | nil => rfl
  | cons a r => simp [show lit "" = [] from rfl]
theorem slashed_ne (b : List Nat) (h : b ≠ []) : (slashed b).getLast? = some 47 := by
  unfold slashed
  split
  · rename_i q; simpa using q
  · rw [List.getLast?_append]; rfl
theorem Gl_end (rs : List (List Nat)) : Gl rs = [] ∨ (Gl rs).getLast? = some 47 := by
  refine snoc_ind (P := fun rs => Gl rs = [] ∨ (Gl rs).getLast? = some 47) (.inl rfl) (fun rs b ih => ?_) rs
  · show Gl (rs ++ [b]) = [] ∨ (Gl (rs ++ [b])).getLast? = some 47
    rw [Gl_app]
    cases b with
    | nil => simpa [close] using ih
    | cons a r =>
      right
      have : close (a :: r) = slashed (a :: r) := rfl
      rw [this, List.getLast?_append, slashed_ne _ (by simp)]
      rfl
theorem close_Gl (rs : List (List Nat)) : close (Gl rs) = Gl rs := by
  unfold close
  rcases Gl_end rs with h | h
  · rw [h]; rfl
  · have : (Gl rs).isEmpty = false := by cases q : Gl rs with
      | nil => rw [q] at h; cases h
      | cons => rfl
    rw [this]
    unfold slashed
    rw [h]; rfl
theorem txS_app (rs : List (List Nat)) (b : List Nat) : txS (rs ++ [b]) = Gl rs ++ b := by
  unfold txS
  rw [tailOf_iff, List.getLastD_concat, Gl_app]
  cases b with
  | nil => simp [close]
  | cons a r =>
    have : close (a :: r) = slashed (a :: r) := rfl
    rw [this]
    unfold slashed
    by_cases h : (a :: r).getLast? = some 47
    · rw [h]; simp
    · have : ((a :: r).getLast? == some 47) = false := by rw [beq_eq_false_iff_ne]; exact h
      rw [this]
      simp only [List.isEmpty_cons, Bool.or_false, Bool.not_false, if_true, Bool.false_eq_true, if_false]
      rw [show lit "/" = [47] from rfl, ← List.append_assoc, List.dropLast_concat]
theorem close_txS (rs : List (List Nat)) (b : List Nat) : close (txS (rs ++ [b])) = Gl (rs ++ [b]) := by
  rw [txS_app, Gl_app]
  cases b with
  | nil => rw [List.append_nil, close_Gl]; simp [close]
  | cons a r =>
    unfold close slashed
    have h1 : (Gl rs ++ a :: r).isEmpty = false := by cases Gl rs <;> rfl
    have h2 : (Gl rs ++ a :: r).getLast? = (a :: r).getLast? := by
      rw [List.getLast?_append]
      cases q : (a :: r).getLast? with
      | none => simp at q
      | some z => rfl
    rw [h1, h2]
    simp only [Bool.false_eq_true, if_false, List.isEmpty_cons]
    split <;> simp
theorem rootsN_app (ws : List (List Nat)) (b : List Nat) : rootsN (ws ++ [b]) = rootsN ws ++ (if isAbs b then [ws.length] else []) := by
  unfold rootsN
  rw [List.length_append, List.length_singleton, List.range_succ, List.filter_append]
  congr 1
  · refine List.filter_congr fun k hk => ?_
    rw [List.mem_range] at hk
    rw [List.getD_eq_getElem?_getD, List.getD_eq_getElem?_getD, List.getElem?_append_left hk]
  · have : (ws ++ [b]).getD ws.length [] = b := by simp [List.getD_eq_getElem?_getD]
    rw [List.filter_cons, this]
    rfl
theorem restS_app {ws : List (List Nat)} (b : List Nat) (h : 0 < ws.length) : restS (ws ++ [b]) = if isAbs b then [b] else restS ws ++ [b] := by
  unfold restS
  have hl := lastRoot_lt h
  by_cases hb : isAbs b = true
  · have : lastRoot (ws ++ [b]) = ws.length := by unfold lastRoot; rw [rootsN_app, if_pos hb, List.getLastD_concat]
    rw [this, if_pos hb, List.drop_append_of_le_length (Nat.le_refl _), List.drop_length]
    rfl
  · have : lastRoot (ws ++ [b]) = lastRoot ws := by unfold lastRoot; rw [rootsN_app, if_neg hb, List.append_nil]
    rw [this, if_neg hb, List.drop_append_of_le_length (Nat.le_of_lt hl)]
theorem jstep_eq (path b : List Nat) : jstep path b = if isAbs b then b else close path ++ b := by
  unfold jstep close slashed
  rw [isAbs_iff]
  by_cases h1 : (b.head? == some 47) = true
  · rw [h1]; simp
  · rw [Bool.not_eq_true] at h1
    rw [h1]
    cases path with
    | nil => rfl
    | cons a r =>
      simp only [List.isEmpty_cons, Bool.or_false, Bool.false_eq_true, if_false]
      split
      · rfl
      · simp [show lit "/" = [47] from rfl]
theorem restS_one (a : List Nat) : restS [a] = [a] := by
  have h := lastRoot_lt (ws := [a]) (by simp)
  have : lastRoot [a] = 0 := by simp at h; exact h
  unfold restS
  rw [this]; rfl
theorem restS_ne {ws : List (List Nat)} (h : 0 < ws.length) : ∃ rs b, restS ws = rs ++ [b] := by
  rcases List.eq_nil_or_concat (restS ws) with e | ⟨r, z, e⟩
  · have hl := lastRoot_lt h
    unfold restS at e
    rw [List.drop_eq_nil_iff] at e
    (first | lia | omega)
  · exact ⟨r, z, by rw [e, List.concat_eq_append]⟩
theorem textS_app {ws : List (List Nat)} (b : List Nat) (h : 0 < ws.length) : textS (ws ++ [b]) = jstep (textS ws) b := by
  rw [textS_eq, textS_eq, restS_app b h, jstep_eq]
  by_cases hb : isAbs b = true
  · rw [if_pos hb, if_pos hb]
    exact txS_app [] b
  · rw [if_neg hb, if_neg hb, txS_app]
    obtain ⟨rs, z, e⟩ := restS_ne h
    rw [e, close_txS]
theorem join_text (a : List Nat) (ps : List (List Nat)) : joinS a ps = textS (a :: ps) := by
  refine snoc_ind (P := fun ps => joinS a ps = textS (a :: ps)) ?_ (fun ps b ih => ?_) ps
  · rw [textS_eq, restS_one]
    exact (txS_app [] a).symm
  · show joinS a (ps ++ [b]) = textS (a :: (ps ++ [b]))
    have : joinS a (ps ++ [b]) = jstep (joinS a ps) b := by unfold joinS; rw [List.foldl_append]; rfl
    rw [this, ih, ← List.cons_append, textS_app b (by simp)]
end Mine
end

section
set_option Elab.async false
set_option maxRecDepth 100000
set_option linter.all false
open PySem
namespace Mine
noncomputable def Run (s : LS) (l : List Nat) (s' : LS) : Prop := ∀ r, rd s (l ++ r) = rd s' r
theorem Run.nil {s : LS} : Run s [] s := fun r => rfl
theorem Run.cons {s s' s'' : LS} {c : Nat} {l : List Nat} (h : lstep s c = (s', false)) (k : Run s' l s'') : Run s (c :: l) s'' := fun r => by
  show rd s (c :: (l ++ r)) = _
  rw [show rd s (c :: (l ++ r)) = (if (lstep s c).2 then some ((lstep s c).1, l ++ r) else rd (lstep s c).1 (l ++ r)) from rfl, h]
  exact k r
theorem Run.app {s s' s'' : LS} {l m : List Nat} (h : Run s l s') (k : Run s' m s'') : Run s (l ++ m) s'' := fun r => by rw [List.append_assoc, h, k]
theorem st39 {t : List Nat} {q : Bool} {e : Nat} {ln : Int} {c : Nat} (h : c ≠ 39) : lstep ⟨some 39, t, q, e, ln⟩ c = (⟨some 39, t ++ [c], true, e, lnl c ln⟩, false) := by
  have : (c == 39) = false := beq_eq_false_iff_ne.mpr h
  simp [lstep, this]
theorem st39c {t : List Nat} {q : Bool} {e : Nat} {ln : Int} : lstep ⟨some 39, t, q, e, ln⟩ 39 = (⟨some 97, t, true, e, lnl 39 ln⟩, false) := by simp [lstep]
theorem st34 {t : List Nat} {q : Bool} {e : Nat} {ln : Int} {c : Nat} (h : c ≠ 34) (h2 : c ≠ 92) : lstep ⟨some 34, t, q, e, ln⟩ c = (⟨some 34, t ++ [c], true, e, lnl c ln⟩, false) := by
  have h1 : (c == 34) = false := beq_eq_false_iff_ne.mpr h
  have h3 : (c == 92) = false := beq_eq_false_iff_ne.mpr h2
  simp [lstep, h1, h3]
theorem st34c {t : List Nat} {q : Bool} {e : Nat} {ln : Int} : lstep ⟨some 34, t, q, e, ln⟩ 34 = (⟨some 97, t, true, e, lnl 34 ln⟩, false) := by simp [lstep]
theorem st34e {t : List Nat} {q : Bool} {e : Nat} {ln : Int} : lstep ⟨some 34, t, q, e, ln⟩ 92 = (⟨some 92, t, true, 34, lnl 92 ln⟩, false) := by simp [lstep]
theorem st92a {t : List Nat} {q : Bool} {ln : Int} {c : Nat} (h : c = 92 ∨ c = 34) : lstep ⟨some 92, t, q, 34, ln⟩ c = (⟨some 34, t ++ [c], q, 34, lnl c ln⟩, false) := by
  rcases h with rfl | rfl <;> simp [lstep]
theorem st92b {t : List Nat} {q : Bool} {ln : Int} {c : Nat} (h : c ≠ 92) (h2 : c ≠ 34) : lstep ⟨some 92, t, q, 34, ln⟩ c = (⟨some 34, t ++ [92] ++ [c], q, 34, lnl c ln⟩, false) := by
  simp [lstep, h, h2]
theorem st92c {t : List Nat} {q : Bool} {ln : Int} {c : Nat} : lstep ⟨some 92, t, q, 97, ln⟩ c = (⟨some 97, t ++ [c], q, 97, lnl c ln⟩, false) := by
  simp [lstep]
theorem st97q {t : List Nat} {q : Bool} {e : Nat} {ln : Int} {c : Nat} (h : c = 39 ∨ c = 34) : lstep ⟨some 97, t, q, e, ln⟩ c = (⟨some c, t, q, e, lnl c ln⟩, false) := by
  rcases h with rfl | rfl <;> simp [lstep, WS]
theorem st97e {t : List Nat} {q : Bool} {e : Nat} {ln : Int} : lstep ⟨some 97, t, q, e, ln⟩ 92 = (⟨some 92, t, q, 97, lnl 92 ln⟩, false) := by
  simp [lstep, WS]
theorem st32q {t : List Nat} {q : Bool} {e : Nat} {ln : Int} {c : Nat} (h : c = 39 ∨ c = 34) : lstep ⟨some 32, t, q, e, ln⟩ c = (⟨some c, t, q, e, lnl c ln⟩, false) := by
  rcases h with rfl | rfl <;> simp [lstep, WS]
structure Plain (c : Nat) : Prop where
  ws : c ∉ WS
  bs : c ≠ 92
  qt : c ≠ 39 ∧ c ≠ 34
theorem st32p {t : List Nat} {q : Bool} {e : Nat} {ln : Int} {c : Nat} (h : Plain c) : lstep ⟨some 32, t, q, e, ln⟩ c = (⟨some 97, [c], q, e, lnl c ln⟩, false) := by
  have h1 : (c == 92) = false := beq_eq_false_iff_ne.mpr h.bs
  simp [lstep, h.ws, h1, h.qt]
theorem st97p {t : List Nat} {q : Bool} {e : Nat} {ln : Int} {c : Nat} (h : Plain c) : lstep ⟨some 97, t, q, e, ln⟩ c = (⟨some 97, t ++ [c], q, e, lnl c ln⟩, false) := by
  have h1 : (c == 92) = false := beq_eq_false_iff_ne.mpr h.bs
  simp [lstep, h.ws, h1, h.qt]
theorem st97w {t : List Nat} {q : Bool} {e : Nat} {ln : Int} {c : Nat} (h : c ∈ WS) (hq : q = true ∨ t ≠ []) : lstep ⟨some 97, t, q, e, ln⟩ c = (⟨some 32, t, q, e, lnl c ln⟩, true) := by
  have : (!t.isEmpty || q) = true := by
    rcases hq with rfl | hq
    · simp
    · cases t with
      | nil => exact absurd rfl hq
      | cons => rfl
  simp only [Bool.or_eq_true, Bool.not_eq_true', List.isEmpty_eq_false_iff] at this
  simp [lstep, h, this]
theorem st32w {e : Nat} {ln : Int} {c : Nat} (h : c ∈ WS) : lstep ⟨some 32, [], false, e, ln⟩ c = (⟨some 32, [], false, e, lnl c ln⟩, false) := by
  simp [lstep, h]
theorem plain_safe {c : Nat} (h : safe c = true) : Plain c := by
  refine ⟨fun q => ?_, fun q => ?_, fun q => ?_, fun q => ?_⟩
  · simp only [WS, List.mem_cons, List.not_mem_nil, or_false] at q
    rcases q with rfl | rfl | rfl | rfl <;> exact absurd h (by decide +kernel)
  · subst q; exact absurd h (by decide +kernel)
  · subst q; exact absurd h (by decide +kernel)
  · subst q; exact absurd h (by decide +kernel)
theorem run_sq {z : List Nat} (Z : ∀ t q e ln, ∃ q' e' ln', Run ⟨some 39, t, q, e, ln⟩ z ⟨some 39, t ++ [39], q', e', ln'⟩) : ∀ (x t : List Nat) (q : Bool) (e : Nat) (ln : Int), ∃ q' e' ln', Run ⟨some 39, t, q, e, ln⟩ (jn z (spl 39 x)) ⟨some 39, t ++ x, q', e', ln'⟩
  | [], t, q, e, ln => ⟨q, e, ln, by rw [List.append_nil]; exact Run.nil⟩
  | a :: l, t, q, e, ln => by
    have hne := spl_ne 39 l
    unfold spl
    by_cases h : a = 39
    · subst h
      rw [if_pos rfl]
      obtain ⟨q1, e1, l1, r1⟩ := Z t q e ln
      obtain ⟨q2, e2, l2, r2⟩ := run_sq Z l (t ++ [39]) q1 e1 l1
      refine ⟨q2, e2, l2, ?_⟩
      cases hs : spl 39 l with
      | nil => exact absurd hs hne
      | cons p r =>
        rw [hs] at r2
        show Run _ (([] : List Nat) ++ z ++ jn z (p :: r)) _
        rw [List.nil_append, show t ++ 39 :: l = t ++ [39] ++ l by simp]
        exact r1.app r2
    · rw [if_neg h]
      obtain ⟨q2, e2, l2, r2⟩ := run_sq Z l (t ++ [a]) true e (lnl a ln)
      refine ⟨q2, e2, l2, ?_⟩
      cases hs : spl 39 l with
      | nil => exact absurd hs hne
      | cons p r =>
        rw [hs] at r2
        have : jn z ((a :: p) :: r) = a :: jn z (p :: r) := by cases r <;> rfl
        show Run _ (jn z ((a :: p) :: r)) _
        rw [this, show t ++ a :: l = t ++ [a] ++ l by simp]
        exact Run.cons (st39 h) r2
theorem z_dq (t : List Nat) (q : Bool) (e : Nat) (ln : Int) : ∃ q' e' ln', Run ⟨some 39, t, q, e, ln⟩ (lit "'\"'\"'") ⟨some 39, t ++ [39], q', e', ln'⟩ :=
  ⟨_, _, _, Run.cons (c := 39) st39c (Run.cons (c := 34) (st97q (.inr rfl)) (Run.cons (c := 39) (st34 (by decide) (by decide)) (Run.cons (c := 34) st34c (Run.cons (c := 39) (st97q (.inl rfl)) Run.nil))))⟩
theorem z_bs (t : List Nat) (q : Bool) (e : Nat) (ln : Int) : ∃ q' e' ln', Run ⟨some 39, t, q, e, ln⟩ (lit "'\\''") ⟨some 39, t ++ [39], q', e', ln'⟩ :=
  ⟨_, _, _, Run.cons (c := 39) st39c (Run.cons (c := 92) st97e (Run.cons (c := 39) st92c (Run.cons (c := 39) (st97q (.inl rfl)) Run.nil)))⟩
theorem run_q {z : List Nat} (Z : ∀ t q e ln, ∃ q' e' ln', Run ⟨some 39, t, q, e, ln⟩ z ⟨some 39, t ++ [39], q', e', ln'⟩) {k : Nat} (hk : k = 32 ∨ k = 97) (x t : List Nat) (q : Bool) (e : Nat) (ln : Int) :
    ∃ e' ln', Run ⟨some k, t, q, e, ln⟩ (lit "'" ++ jn z (spl 39 x) ++ lit "'") ⟨some 97, t ++ x, true, e', ln'⟩ := by
  have h0 : lstep ⟨some k, t, q, e, ln⟩ 39 = (⟨some 39, t, q, e, lnl 39 ln⟩, false) := by
    rcases hk with rfl | rfl
    · exact st32q (.inl rfl)
    · exact st97q (.inl rfl)
  obtain ⟨q1, e1, l1, r1⟩ := run_sq Z x t q e (lnl 39 ln)
  exact ⟨_, _, Run.app (Run.app (Run.cons (c := 39) h0 Run.nil) r1) (Run.cons (c := 39) st39c Run.nil)⟩
theorem run_dq : ∀ (n : Nat) (x t : List Nat) (q : Bool) (e : Nat) (ln : Int), x.length ≤ n → ∃ q' e' ln', Run ⟨some 34, t, q, e, ln⟩ (dqS x) ⟨some 34, t ++ x, q', e', ln'⟩
  | _, [], t, q, e, ln, _ => ⟨q, e, ln, by rw [List.append_nil]; exact Run.nil⟩
  | 0, _ :: _, _, _, _, _, h => by simp at h
  | n + 1, c :: r, t, q, e, ln, h => by
    have hr : r.length ≤ n := by simpa using h
    unfold dqS
    by_cases h1 : c = 34
    · subst h1
      obtain ⟨q2, e2, l2, r2⟩ := run_dq n r (t ++ [34]) true 34 (lnl 34 (lnl 92 ln)) hr
      refine ⟨q2, e2, l2, ?_⟩
      rw [show t ++ 34 :: r = t ++ [34] ++ r by simp]
      exact Run.cons (c := 92) st34e (Run.cons (c := 34) (st92a (.inr rfl)) r2)
    · have h1' : (c == 34) = false := beq_eq_false_iff_ne.mpr h1
      by_cases h2 : c = 92
      · subst h2
        cases r with
        | nil =>
          exact ⟨_, _, _, Run.cons (c := 92) st34e (Run.cons (c := 92) (st92a (.inl rfl)) Run.nil)⟩
        | cons d r' =>
          by_cases h3 : d = 34 ∨ d = 92
          · obtain ⟨q2, e2, l2, r2⟩ := run_dq n (d :: r') (t ++ [92]) true 34 (lnl 92 (lnl 92 ln)) hr
            refine ⟨q2, e2, l2, ?_⟩
            have hc : ((92 == 34) || (92 == 92 && [[], [34], [92]].any (· == (d :: r').take 1))) = true := by rcases h3 with rfl | rfl <;> rfl
            rw [if_pos hc, show t ++ 92 :: d :: r' = t ++ [92] ++ (d :: r') by simp]
            exact Run.cons (c := 92) st34e (Run.cons (c := 92) (st92a (.inl rfl)) r2)
          · have h3 : d ≠ 34 ∧ d ≠ 92 := by constructor <;> (intro q; exact h3 (by simp [q]))
            obtain ⟨q2, e2, l2, r2⟩ := run_dq n r' (t ++ [92] ++ [d]) true 34 (lnl d (lnl 92 ln)) (by simp at hr; (first | lia | omega))
            refine ⟨q2, e2, l2, ?_⟩
            have hd1 : (d == 34) = false := beq_eq_false_iff_ne.mpr h3.1
            have hd2 : (d == 92) = false := beq_eq_false_iff_ne.mpr h3.2
            have hc : ((92 == 34) || (92 == 92 && [[], [34], [92]].any (· == (d :: r').take 1))) = false := by
              show (([] : List Nat) == [d] || (([34] : List Nat) == [d] || (([92] : List Nat) == [d] || false))) = false
              rw [beq_eq_false_iff_ne.mpr (show ([] : List Nat) ≠ [d] by simp), beq_eq_false_iff_ne.mpr (show ([34] : List Nat) ≠ [d] by simpa using Ne.symm h3.1), beq_eq_false_iff_ne.mpr (show ([92] : List Nat) ≠ [d] by simpa using Ne.symm h3.2)]
              rfl
            rw [if_neg (by rw [hc]; decide)]
            have : dqS (d :: r') = d :: dqS r' := by
              conv => lhs; unfold dqS
              rw [hd1, hd2]; rfl
            rw [this, show t ++ 92 :: d :: r' = t ++ [92] ++ [d] ++ r' by simp]
            exact Run.cons (c := 92) st34e (Run.cons (c := d) (st92b h3.2 h3.1) r2)
      · have h2' : (c == 92) = false := beq_eq_false_iff_ne.mpr h2
        obtain ⟨q2, e2, l2, r2⟩ := run_dq n r (t ++ [c]) true e (lnl c ln) hr
        refine ⟨q2, e2, l2, ?_⟩
        rw [h1', h2', show t ++ c :: r = t ++ [c] ++ r by simp]
        exact Run.cons (st34 h1 h2) r2
theorem run_spell2 {k : Nat} (hk : k = 32 ∨ k = 97) (x t : List Nat) (q : Bool) (e : Nat) (ln : Int) : ∃ e' ln', Run ⟨some k, t, q, e, ln⟩ (spell2 x) ⟨some 97, t ++ x, true, e', ln'⟩ := by
  have h0 : lstep ⟨some k, t, q, e, ln⟩ 34 = (⟨some 34, t, q, e, lnl 34 ln⟩, false) := by
    rcases hk with rfl | rfl
    · exact st32q (.inr rfl)
    · exact st97q (.inr rfl)
  obtain ⟨q1, e1, l1, r1⟩ := run_dq x.length x t q e (lnl 34 ln) (Nat.le_refl _)
  exact ⟨_, _, Run.app (Run.app (Run.cons (c := 34) h0 Run.nil) r1) (Run.cons (c := 34) st34c Run.nil)⟩
theorem run_plain : ∀ (x t : List Nat) (q : Bool) (e : Nat) (ln : Int), (∀ c ∈ x, Plain c) → ∃ ln', Run ⟨some 97, t, q, e, ln⟩ x ⟨some 97, t ++ x, q, e, ln'⟩
  | [], t, q, e, ln, _ => ⟨ln, by rw [List.append_nil]; exact Run.nil⟩
  | c :: r, t, q, e, ln, h => by
    obtain ⟨l2, r2⟩ := run_plain r (t ++ [c]) q e (lnl c ln) fun d hd => h d (List.mem_cons_of_mem _ hd)
    refine ⟨l2, ?_⟩
    rw [show t ++ c :: r = t ++ [c] ++ r by simp]
    exact Run.cons (st97p (h c List.mem_cons_self)) r2
noncomputable def SpOk (u sp : List Nat) : Prop := ∀ ln, ∃ q e ln', (q = true ∨ u ≠ []) ∧ Run ⟨some 32, [], false, 32, ln⟩ sp ⟨some 97, u, q, e, ln'⟩
theorem sp_quote (x : List Nat) : SpOk x (quoteS x) := by
  intro ln
  unfold quoteS
  split
  · rename_i h
    have : x = [] := by simpa using h
    subst this
    obtain ⟨e', l', r⟩ := run_q z_dq (.inl rfl) [] [] false 32 ln
    exact ⟨true, e', l', .inl rfl, r⟩
  · rename_i h
    split
    · rename_i hs
      cases x with
      | nil => exact absurd rfl h
      | cons c r =>
        have hp : ∀ d ∈ c :: r, Plain d := fun d hd => plain_safe (List.all_eq_true.mp hs d hd)
        obtain ⟨l2, r2⟩ := run_plain r [c] false 32 (lnl c ln) fun d hd => hp d (List.mem_cons_of_mem _ hd)
        exact ⟨false, 32, l2, .inr (by simp), Run.cons (st32p (hp c List.mem_cons_self)) r2⟩
    · obtain ⟨e', l', r⟩ := run_q z_dq (.inl rfl) x [] false 32 ln
      exact ⟨true, e', l', .inl rfl, r⟩
theorem sp_spell (x : List Nat) : ∀ n, SpOk x (spellS x n)
  | 0 => sp_quote x
  | 1 => fun ln => by
    obtain ⟨e', l', r⟩ := run_q z_bs (.inl rfl) x [] false 32 ln
    exact ⟨true, e', l', .inl rfl, r⟩
  | 2 => fun ln => by
    obtain ⟨e', l', r⟩ := run_spell2 (.inl rfl) x [] false 32 ln
    exact ⟨true, e', l', .inl rfl, r⟩
  | n + 3 => fun ln => by
    obtain ⟨e1, l1, r1⟩ := run_spell2 (.inl rfl) (x.take (x.length / 2)) [] false 32 ln
    obtain ⟨e2, l2, r2⟩ := run_q z_bs (.inr rfl) (x.drop (x.length / 2)) ([] ++ x.take (x.length / 2)) true e1 l1
    rw [List.nil_append, List.take_append_drop] at r2
    exact ⟨true, e2, l2, .inl rfl, r1.app r2⟩
theorem Toks.same {st : Option Nat} {ln ln' : Int} {r r' : List Nat} {ts : List (List Nat)} (h : rd ⟨st, [], false, 32, ln⟩ r = rd ⟨st, [], false, 32, ln'⟩ r') (T : Toks st ln' r' ts) : Toks st ln r ts := by
  cases T with
  | done a b c => exact .done a (h.trans b) c
  | more a b c d => exact .more a (h.trans b) c d
theorem tok_str {u : List Nat} {st : Option Nat} {q : Bool} {e : Nat} {ln : Int} (h : q = true ∨ u ≠ []) : tokAV ⟨st, u, q, e, ln⟩ = .str u := by
  unfold tokAV
  rcases h with rfl | h
  · rfl
  · cases u with
    | nil => exact absurd rfl h
    | cons => cases q <;> rfl
noncomputable def White (z : List Nat) : Prop := z = lit " " ∨ z = lit "\t\n" ∨ z = lit "\r"
theorem toks_line : ∀ (items : List (List Nat × List Nat × List Nat)) (u sp : List Nat) (ln : Int), SpOk u sp → (∀ i ∈ items, White i.1 ∧ SpOk i.2.2 i.2.1) → Toks (some 32) ln (sp ++ (items.map fun i => i.1 ++ i.2.1).flatten) (u :: items.map fun i => i.2.2)
  | [], u, sp, ln, h, _ => by
    obtain ⟨q, e, l', hq, r⟩ := h ln
    have r0 := r []
    refine .more (E := (⟨none, u, q, e, l'⟩, [])) (.inr (.inl rfl)) (r0.trans rfl) (tok_str hq) ?_
    exact .done (E := (⟨none, [], false, 32, l'⟩, [])) (.inl rfl) rfl rfl
  | (z, sp', u') :: items, u, sp, ln, h, hi => by
    obtain ⟨q, e, l', hq, r⟩ := h ln
    obtain ⟨hz, h'⟩ := hi _ List.mem_cons_self
    have ih := fun ln => toks_line items u' sp' ln h' fun i q => hi i (List.mem_cons_of_mem _ q)
    have r0 := r ((z ++ sp') ++ (items.map fun i => i.1 ++ i.2.1).flatten)
    have main : ∀ (c : Nat) (z' : List Nat), c ∈ WS → z = c :: z' → (∀ ln, Toks (some 32) ln (z' ++ (sp' ++ (items.map fun i => i.1 ++ i.2.1).flatten)) (u' :: items.map fun i => i.2.2)) →
        Toks (some 32) ln (sp ++ (((z, sp', u') :: items).map fun i => i.1 ++ i.2.1).flatten) (u :: ((z, sp', u') :: items).map fun i => i.2.2) := fun c z' hc hz' k => by
      refine .more (E := (⟨some 32, u, q, e, lnl c l'⟩, z' ++ (sp' ++ (items.map fun i => i.1 ++ i.2.1).flatten))) (.inr (.inl rfl)) ?_ (tok_str hq) (k _)
      rw [List.map_cons, List.flatten_cons]
      refine r0.trans ?_
      rw [hz']
      show rd _ (c :: (z' ++ sp' ++ _)) = _
      rw [show ∀ s l, rd s (c :: l) = (if (lstep s c).2 then some ((lstep s c).1, l) else rd (lstep s c).1 l) from fun _ _ => rfl, st97w hc hq, List.append_assoc]
      rfl
    rcases hz with hz | hz | hz
    · exact main 32 [] (by simp [WS]) hz ih
    · refine main 9 [10] (by simp [WS]) hz fun ln => ?_
      refine Toks.same (ln' := lnl 10 ln) ?_ (ih _)
      exact Run.cons (c := 10) (st32w (by simp [WS])) Run.nil _
    · exact main 13 [] (by simp [WS]) hz ih
theorem white_ok (x : Int) (k : Nat) : White (whiteOf x k) := by
  unfold whiteOf
  have m3 := (fmod_lt (x.fdiv 1344 + k) 3 (by decide)).2
  generalize ((x.fdiv 1344 + k).fmod 3).toNat = n at m3
  match n, m3 with
  | 0, _ => exact .inl rfl
  | 1, _ => exact .inr (.inl rfl)
  | 2, _ => exact .inr (.inr rfl)
theorem toks_lineS (ws : List (List Nat)) (ns : List Int) (h : ws.length = ns.length + 1) (ln : Int) : Toks (some 32) ln (lineS ws ns) ws := by
  have T := toks_line (ns.mapIdx fun k x => (whiteOf x k, spellS (ws.getD (k + 1) []) (styleOf x k), ws.getD (k + 1) [])) (ws.getD 0 []) (quoteS (ws.getD 0 [])) ln (sp_quote _) (fun i hi => by
    obtain ⟨k, hk, rfl⟩ := List.mem_mapIdx.mp hi
    exact ⟨white_ok _ _, sp_spell _ _⟩)
  have e1 : ((ns.mapIdx fun k x => (whiteOf x k, spellS (ws.getD (k + 1) []) (styleOf x k), ws.getD (k + 1) [])).map fun i => i.1 ++ i.2.1) = ns.mapIdx fun k x => partOf ws x k := by
    refine List.ext_getElem (by simp) fun i h1 h2 => ?_
    simp [partOf]
  have e2 : (ws.getD 0 [] :: (ns.mapIdx fun k x => (whiteOf x k, spellS (ws.getD (k + 1) []) (styleOf x k), ws.getD (k + 1) [])).map fun i => i.2.2) = ws := by
    refine List.ext_getElem (by simp [h]) fun i h1 h2 => ?_
    cases i with
    | zero => simp [List.getD_eq_getElem?_getD, h2]
    | succ i => simp [List.getD_eq_getElem?_getD, h2]
  rw [e1, e2] at T
  exact T
end Mine
end

section
set_option Elab.async false
set_option maxRecDepth 100000
set_option linter.all false
open PySem
namespace Mine
noncomputable def sr : List Nat → List Nat × List Nat
  | [] => ([], [])
  | a :: r => if a = 47 then (if r.head? = some 47 then (if r.tail.head? = some 47 then ([47], r) else ([47, 47], r.tail)) else ([47], r)) else ([], a :: r)
theorem take1 (x : List Nat) : (x.take 1 != lit "/") = (x.head? != some 47) := by
  have := isAbs_iff x
  unfold isAbs at this
  rw [sl_head] at this
  rw [bne, this]; rfl
theorem take1' (x : List Nat) : (x.take 1 == lit "/") = (x.head? == some 47) := by
  have := isAbs_iff x
  unfold isAbs at this
  rw [sl_head] at this
  exact this
theorem sroot_eq (x : List Nat) : srootS x = sr x := by
  unfold srootS
  have e1 : sl x (some 1) (some 2) = (x.drop 1).take 1 := sl_nat x 1 2 (by decide)
  have e2 : sl x (some 2) (some 3) = (x.drop 2).take 1 := sl_nat x 2 3 (by decide)
  have e3 : sl x (some 1) none = x.drop 1 := sl_from x 1
  have e4 : sl x none (some 2) = x.take 2 := sl_to x 2
  have e5 : sl x (some 2) none = x.drop 2 := sl_from x 2
  rw [e1, e2, e3, e4, e5, sl_head, take1, take1, take1']
  cases x with
  | nil => rfl
  | cons a r =>
    unfold sr
    by_cases h : a = 47
    · subst h
      cases r with
      | nil => rfl
      | cons b r =>
        by_cases h2 : b = 47
        · subst h2
          cases r with
          | nil => rfl
          | cons c r =>
            by_cases h3 : c = 47
            · subst h3; simp [show lit "/" = [47] from rfl]
            · simp [h3, show lit "/" = [47] from rfl]
        · simp [h2, show lit "/" = [47] from rfl]
    · simp [h]
theorem sr_app (p b : List Nat) (hb : b.head? ≠ some 47) : sr (p ++ b) = ((sr p).1, (sr p).2 ++ b) := by
  cases p with
  | nil =>
    cases b with
    | nil => rfl
    | cons a r =>
      have : a ≠ 47 := fun q => hb (by rw [q]; rfl)
      simp [sr, this]
  | cons a p =>
    by_cases h : a = 47
    · subst h
      cases p with
      | nil => simp [sr, hb]
      | cons c p =>
        by_cases h2 : c = 47
        · subst h2
          cases p with
          | nil => simp [sr, hb]
          | cons d p =>
            by_cases h3 : d = 47
            · subst h3; simp [sr]
            · simp [sr, h3]
        · simp [sr, h2]
    · simp [sr, h]
theorem sr_app2 (p b : List Nat) (hp : p ≠ []) (hl : p.getLast? ≠ some 47) : sr (p ++ 47 :: b) = ((sr p).1, (sr p).2 ++ 47 :: b) := by
  cases p with
  | nil => exact absurd rfl hp
  | cons a p =>
    by_cases h : a = 47
    · subst h
      cases p with
      | nil => exact absurd rfl hl
      | cons c p =>
        by_cases h2 : c = 47
        · subst h2
          cases p with
          | nil => exact absurd rfl hl
          | cons d p =>
            by_cases h3 : d = 47
            · subst h3; simp [sr]
            · simp [sr, h3]
        · simp [sr, h2]
    · simp [sr, h]
theorem sr_cat (p : List Nat) : (sr p).1 ++ (sr p).2 = p := by
  cases p with
  | nil => rfl
  | cons a p =>
    by_cases h : a = 47
    · subst h
      cases p with
      | nil => rfl
      | cons c p =>
        by_cases h2 : c = 47
        · subst h2
          cases p with
          | nil => rfl
          | cons d p =>
            by_cases h3 : d = 47
            · subst h3; simp [sr]
            · simp [sr, h3]
        · simp [sr, h2]
    · simp [sr, h]
theorem splC (v : List Nat) : ∀ u : List Nat, spl 47 (u ++ 47 :: v) = spl 47 u ++ spl 47 v
  | [] => by simp [spl]
  | a :: u => by
    have ih := splC v u
    have hne := spl_ne 47 u
    have st : ∀ l, spl 47 (a :: l) = (if a = 47 then [] :: spl 47 l else match spl 47 l with | p :: r => (a :: p) :: r | [] => [[a]]) := fun l => rfl
    show spl 47 (a :: (u ++ 47 :: v)) = _
    rw [st, st]
    by_cases h : a = 47
    · rw [if_pos h, if_pos h, ih]; rfl
    · rw [if_neg h, if_neg h, ih]
      cases hs : spl 47 u with
      | nil => exact absurd hs hne
      | cons p r => rfl
theorem spl_no : ∀ u : List Nat, 47 ∉ u → spl 47 u = [u]
  | [], _ => rfl
  | a :: u, h => by
    have ih := spl_no u fun q => h (List.mem_cons_of_mem _ q)
    unfold spl
    rw [if_neg (fun q => h (by rw [q]; exact List.mem_cons_self)), ih]
theorem spljn : ∀ ps : List (List Nat), ps ≠ [] → (∀ u ∈ ps, 47 ∉ u) → spl 47 (jn (lit "/") ps) = ps
  | [], h, _ => absurd rfl h
  | [x], _, h => spl_no x (h x List.mem_cons_self)
  | x :: y :: r, _, h => by
    have ih := spljn (y :: r) (by simp) fun u hu => h u (List.mem_cons_of_mem _ hu)
    show spl 47 (x ++ [47] ++ jn (lit "/") (y :: r)) = _
    rw [List.append_assoc]
    show spl 47 (x ++ 47 :: jn (lit "/") (y :: r)) = _
    rw [splC, ih, spl_no x (h x List.mem_cons_self)]
    rfl
theorem nstep_nil (r : List Nat) (acc : List (List Nat)) : nstep r acc [] = acc := rfl
theorem fold_jn (r : List Nat) (acc : List (List Nat)) (ps : List (List Nat)) (h : ∀ u ∈ ps, 47 ∉ u) : (spl 47 (jn (lit "/") ps)).foldl (nstep r) acc = ps.foldl (nstep r) acc := by
  cases ps with
  | nil => rfl
  | cons a r => rw [spljn _ (by simp) h]
noncomputable def sem (x : List Nat) : List Nat × List (List Nat) := ((sr x).1, (spl 47 (sr x).2).foldl (nstep (sr x).1) [])
noncomputable def render (s : List Nat × List (List Nat)) : List Nat := if (s.1 ++ jn (lit "/") s.2).isEmpty then lit "." else s.1 ++ jn (lit "/") s.2
theorem norm_render (x : List Nat) : normS x = render (sem x) := by
  unfold normS render sem ncomps
  rw [sroot_eq]
  cases x with
  | nil => rfl
  | cons a r => rfl
noncomputable def sj (s : List Nat × List (List Nat)) (b : List Nat) : List Nat × List (List Nat) := if isAbs b then sem b else (s.1, (spl 47 b).foldl (nstep s.1) s.2)
theorem sem_close (p b : List Nat) (hb : isAbs b = false) : sem (close p ++ b) = ((sem p).1, (spl 47 b).foldl (nstep (sem p).1) (sem p).2) := by
  have hb' : b.head? ≠ some 47 := by rw [isAbs_iff] at hb; exact beq_eq_false_iff_ne.mp hb
  have go : ∀ q : List Nat, (q = [] ∨ q.getLast? = some 47) → sem (q ++ b) = ((sem q).1, (spl 47 b).foldl (nstep (sem q).1) (sem q).2) := by
    intro q hq
    unfold sem
    rw [sr_app q b hb']
    dsimp only
    congr 1
    have hc := sr_cat q
    rcases List.eq_nil_or_concat (sr q).2 with e | ⟨t, z, e⟩
    · rw [e]; rfl
    · rw [List.concat_eq_append] at e
      rw [e] at hc ⊢
      have hz : z = 47 := by
        rcases hq with rfl | hq
        · have := congrArg List.length hc; simp at this
        · rw [← hc, ← List.append_assoc, List.getLast?_append] at hq; simpa using hq
      subst hz
      have e1 : spl 47 (t ++ [47] ++ b) = spl 47 t ++ spl 47 b := by rw [List.append_assoc]; exact splC b t
      have e2 : spl 47 (t ++ [47]) = spl 47 t ++ [[]] := splC [] t
      rw [e1, e2, List.foldl_append, List.foldl_append]
      rfl
  unfold close slashed
  split
  · rename_i h
    have : p = [] := by simpa using h
    subst this
    exact go [] (.inl rfl)
  · rename_i h
    split
    · rename_i h2
      exact go p (.inr (by simpa using h2))
    · rename_i h2
      have hp : p ≠ [] := by simpa using h
      have hl : p.getLast? ≠ some 47 := by simpa using h2
      rw [List.append_assoc]
      show sem (p ++ 47 :: b) = _
      unfold sem
      rw [sr_app2 p b hp hl]
      dsimp only
      rw [splC, List.foldl_append]
theorem sem_jstep (p b : List Nat) : sem (jstep p b) = sj (sem p) b := by
  rw [jstep_eq]
  unfold sj
  cases h : isAbs b with
  | true => rfl
  | false => simp only [Bool.false_eq_true, if_false]; exact sem_close p b h
theorem sem_join (ps : List (List Nat)) : ∀ a, sem (joinS a ps) = ps.foldl sj (sem a) := by
  induction ps with
  | nil => intro a; rfl
  | cons b ps ih =>
    intro a
    show sem (joinS (jstep a b) ps) = _
    rw [ih, sem_jstep]
    rfl
end Mine
end

section
set_option Elab.async false
set_option maxRecDepth 100000
set_option linter.all false
open PySem
namespace Mine
structure Good (u : List Nat) : Prop where
  ne : u ≠ []
  d1 : u ≠ lit "."
  d2 : u ≠ lit ".."
  sep : 47 ∉ u
theorem good_name (x : Int) (h : nameOf x ≠ []) : Good (nameOf x) := by
  unfold nameOf at h ⊢
  generalize (x.fmod 7).toNat = n at h ⊢
  match n, h with
  | 0, _ => exact ⟨by decide, by decide, by decide, by decide⟩
  | 1, h => exact absurd rfl h
  | 2, _ => exact ⟨by decide, by decide, by decide, by decide⟩
  | 3, _ => exact ⟨by decide, by decide, by decide, by decide⟩
  | 4, _ => exact ⟨by decide, by decide, by decide, by decide⟩
  | 5, _ => exact ⟨by decide, by decide, by decide, by decide⟩
  | 6, _ => exact ⟨by decide, by decide, by decide, by decide⟩
  | n + 7, h => exact absurd rfl h
theorem good_more (x : Int) : ∀ u ∈ moreOf x, Good u := by
  intro u hu
  unfold moreOf at hu
  split at hu
  · rename_i h
    rw [List.mem_singleton] at hu; subst hu
    exact good_name x (by simpa [show lit "" = [] from rfl] using h)
  · cases hu
theorem nstep_good {u : List Nat} (h : Good u) (r : List Nat) (acc : List (List Nat)) : nstep r acc u = acc ++ [u] := by
  unfold nstep
  have h1 : u.isEmpty = false := by cases u with
    | nil => exact absurd rfl h.ne
    | cons => rfl
  have h2 : (u == lit ".") = false := beq_eq_false_iff_ne.mpr h.d1
  have h3 : (u != lit "..") = true := by rw [bne, beq_eq_false_iff_ne.mpr h.d2]; rfl
  rw [h1, h2, h3]; rfl
theorem fold_good {us : List (List Nat)} (h : ∀ u ∈ us, Good u) (r : List Nat) : ∀ acc, us.foldl (nstep r) acc = acc ++ us := by
  induction us with
  | nil => intro acc; simp
  | cons u us ih =>
    intro acc
    rw [List.foldl_cons, nstep_good (h u List.mem_cons_self), ih fun v hv => h v (List.mem_cons_of_mem _ hv)]
    simp
theorem nstep_up_pop {u : List Nat} (h : Good u) (r : List Nat) (acc : List (List Nat)) : nstep r (acc ++ [u]) (lit "..") = acc := by
  unfold nstep
  have h1 : (acc ++ [u]).isEmpty = false := by cases acc <;> rfl
  have h2 : (acc ++ [u]).getLast? = some u := by simp
  have h3 : (some u == some (lit "..")) = false := beq_eq_false_iff_ne.mpr (by simpa using h.d2)
  rw [h1, h2, h3]
  simp only [show (lit "..").isEmpty = false from rfl, show (lit ".." == lit ".") = false from rfl, show (lit ".." != lit "..") = false from rfl]
  simp
theorem nstep_up_push (u : Nat) : nstep [] (List.replicate u (lit "..")) (lit "..") = List.replicate (u + 1) (lit "..") := by
  unfold nstep
  cases u with
  | zero => rfl
  | succ u =>
    have h1 : (List.replicate (u + 1) (lit "..")).isEmpty = false := rfl
    have h2 : (List.replicate (u + 1) (lit "..")).getLast? = some (lit "..") := by rw [List.replicate_succ']; simp
    rw [h1, h2]
    simp only [show (lit "..").isEmpty = false from rfl, show (lit ".." == lit ".") = false from rfl, show (lit ".." != lit "..") = false from rfl]
    simp [← List.replicate_succ']
theorem nstep_up_skip {r : List Nat} (h : r ≠ []) : nstep r [] (lit "..") = [] := by
  cases r with
  | nil => exact absurd rfl h
  | cons => rfl
noncomputable def cs (r : List Nat) (u : Nat) (names : List (List Nat)) : List (List Nat) := (if r = [] then List.replicate u (lit "..") else []) ++ names
theorem fold_ups {names : List (List Nat)} (h : ∀ u ∈ names, Good u) (r : List Nat) (u : Nat) : ∀ m, (List.replicate m (lit "..")).foldl (nstep r) (cs r u names) = cs r (u + (m - names.length)) (names.take (names.length - m)) := by
  refine snoc_ind (P := fun names => (∀ u ∈ names, Good u) → ∀ m, (List.replicate m (lit "..")).foldl (nstep r) (cs r u names) = cs r (u + (m - names.length)) (names.take (names.length - m))) ?_ (fun names v ih => ?_) names h
  · intro _ m
    simp only [List.length_nil, Nat.sub_zero, Nat.zero_sub, List.take_nil]
    unfold cs
    by_cases hr : r = []
    · subst hr
      simp only [if_true, List.append_nil]
      induction m generalizing u with
      | zero => rfl
      | succ m ih =>
        rw [List.replicate_succ, List.foldl_cons, nstep_up_push, ih]
        congr 1; (first | lia | omega)
    · simp only [if_neg hr, List.append_nil]
      induction m with
      | zero => rfl
      | succ m ih => rw [List.replicate_succ, List.foldl_cons, nstep_up_skip hr, ih]
  · intro h m
    cases m with
    | zero => simp only [List.replicate_zero, List.foldl_nil, Nat.zero_sub, Nat.add_zero, Nat.sub_zero, List.take_length]
    | succ m =>
      have hg := h v (by simp)
      have e : cs r u (names ++ [v]) = cs r u names ++ [v] := by unfold cs; rw [List.append_assoc]
      rw [List.replicate_succ, List.foldl_cons, e, nstep_up_pop hg, ih fun w hw => h w (by simp [hw])]
      rw [List.length_append, List.length_singleton, Nat.add_sub_add_right, Nat.add_sub_add_right, List.take_append_of_le_length (by (first | lia | omega))]
theorem fold_pieces1 (r : List Nat) (ps : List (List Nat)) (det : Nat) (acc : List (List Nat)) : (pieces1 ps det).foldl (nstep r) acc = ps.foldl (nstep r) acc := by
  have gb : Good (lit "b c") := ⟨by decide, by decide, by decide, by decide⟩
  have ga : Good (lit "a") := ⟨by decide, by decide, by decide, by decide⟩
  unfold pieces1
  split
  · rw [List.foldl_append]
    congr 1
    rw [List.foldl_cons, List.foldl_cons, nstep_good gb, nstep_up_pop gb]; rfl
  · split
    · rw [List.foldl_append, List.foldl_append]
      have : ∀ acc, [lit "."].foldl (nstep r) acc = acc := fun _ => rfl
      rw [this, ← List.foldl_append, List.take_append_drop]
    · split
      · rw [List.foldl_append]
        generalize ps.foldl (nstep r) acc = acc2
        rw [List.foldl_cons, List.foldl_cons, List.foldl_cons, List.foldl_cons, nstep_good ga]
        show nstep r (nstep r (acc2 ++ [lit "a"]) (lit "..")) (lit "") = acc2
        rw [nstep_up_pop ga]; rfl
      · rfl
noncomputable def Pc (u : List Nat) : Prop := 47 ∉ u
theorem pieces1_pc {ps : List (List Nat)} {det : Nat} (h : ∀ u ∈ ps, 47 ∉ u) : ∀ u ∈ pieces1 ps det, 47 ∉ u := by
  intro u hu
  unfold pieces1 at hu
  split at hu
  · simp only [List.cons_append, List.nil_append, List.mem_cons] at hu
    rcases hu with rfl | rfl | hu
    · decide
    · decide
    · exact h u hu
  · split at hu
    · simp only [List.mem_append, List.mem_singleton] at hu
      rcases hu with (hu | rfl) | hu
      · exact h u (List.mem_of_mem_take hu)
      · decide
      · exact h u (List.mem_of_mem_drop hu)
    · split at hu
      · rcases List.mem_append.mp hu with hu | hu
        · exact h u hu
        · simp only [List.mem_cons, List.not_mem_nil, or_false] at hu
          rcases hu with rfl | rfl | rfl | rfl <;> decide
      · exact h u hu
theorem pieces1_head {ps : List (List Nat)} {det : Nat} (h : ∀ u ∈ ps, u ≠ []) : ∀ u, (pieces1 ps det).head? = some u → u ≠ [] := by
  intro u hu
  unfold pieces1 at hu
  split at hu
  · cases hu; decide
  · split at hu
    · cases ps with
      | nil => cases hu; decide
      | cons a r => cases hu; exact h _ List.mem_cons_self
    · split at hu
      · cases ps with
        | nil => cases hu; decide
        | cons a r => cases hu; exact h _ List.mem_cons_self
      · cases ps with
        | nil => cases hu
        | cons a r => cases hu; exact h _ List.mem_cons_self
theorem jn_head {ps : List (List Nat)} (h : ∀ u, ps.head? = some u → u ≠ []) (h2 : ∀ u ∈ ps, 47 ∉ u) : (jn (lit "/") ps).head? ≠ some 47 := by
  cases ps with
  | nil => intro q; cases q
  | cons a r =>
    have ha := h a rfl
    have hb := h2 a List.mem_cons_self
    cases a with
    | nil => exact absurd rfl ha
    | cons c a =>
      have : (jn (lit "/") ((c :: a) :: r)).head? = some c := by cases r <;> rfl
      rw [this]
      intro q
      cases q
      exact hb List.mem_cons_self
end Mine
end

section
set_option Elab.async false
set_option maxRecDepth 100000
set_option linter.all false
open PySem
namespace Mine
noncomputable def stOf (t : TS) : List Nat × List (List Nat) := (t.root, cs t.root t.ups t.names)
structure Nice (t : TS) : Prop where
  root : t.root = [] ∨ t.root = [47] ∨ t.root = [47, 47]
  names : ∀ u ∈ t.names, Good u
theorem Nice.step {t : TS} (h : Nice t) (k : Nat) (x : Int) : Nice (tstep t k x) := by
  refine ⟨?_, fun u hu => ?_⟩
  · show rootOf t.root (wayOf x k) = [] ∨ rootOf t.root (wayOf x k) = [47] ∨ rootOf t.root (wayOf x k) = [47, 47]
    unfold rootOf
    split
    · exact h.root
    · split
      · exact .inr (.inl rfl)
      · exact .inr (.inr rfl)
  · rcases List.mem_append.mp hu with q | q
    · exact h.names u (List.mem_of_mem_take q)
    · exact good_more x u q
theorem ups_sep : 47 ∉ lit ".." := by decide
theorem render_place {t : TS} : render (stOf t) = placeOf t.root t.ups t.names := by
  unfold render stOf placeOf cs
  by_cases h : t.root = []
  · rw [h]; simp [show lit "" = [] from rfl]
  · have h1 : (t.root == lit "") = false := beq_eq_false_iff_ne.mpr h
    rw [h1]
    simp only [if_neg h, List.nil_append, Bool.false_eq_true, if_false]
    have : (t.root ++ jn (lit "/") t.names).isEmpty = false := by
      cases q : t.root with
      | nil => exact absurd q h
      | cons => rfl
    rw [this]; rfl
theorem sr_rooted {r x : List Nat} (hr : r = [47] ∨ r = [47, 47]) (hx : x.head? ≠ some 47) : sr (r ++ x) = (r, x) := by
  have e := sr_app r x hx
  rw [e]
  rcases hr with rfl | rfl <;> rfl
theorem sr_rel {x : List Nat} (hx : x.head? ≠ some 47) : sr x = ([], x) := by
  have e := sr_app [] x hx
  exact e
theorem good_jn {ps : List (List Nat)} (h : ∀ u ∈ ps, Good u) : (jn (lit "/") ps).head? ≠ some 47 :=
  jn_head (fun u hu => (h u (List.mem_of_mem_head? hu)).ne) fun u hu => (h u hu).sep
theorem sem_place {t : TS} (h : Nice t) : sem (placeOf t.root t.ups t.names) = stOf t := by
  unfold placeOf stOf
  by_cases hr : t.root = []
  · have h1 : (t.root == lit "") = true := by rw [hr]; rfl
    rw [h1, hr]
    simp only [if_true]
    have hsep : ∀ u ∈ List.replicate t.ups (lit "..") ++ t.names, 47 ∉ u := fun u hu => by
      rcases List.mem_append.mp hu with q | q
      · rw [List.eq_of_mem_replicate q]; exact ups_sep
      · exact (h.names u q).sep
    have hne : ∀ u ∈ List.replicate t.ups (lit "..") ++ t.names, u ≠ [] := fun u hu => by
      rcases List.mem_append.mp hu with q | q
      · rw [List.eq_of_mem_replicate q]; decide
      · exact (h.names u q).ne
    have hfold : (List.replicate t.ups (lit "..") ++ t.names).foldl (nstep []) [] = cs [] t.ups t.names := by
      rw [List.foldl_append, fold_good h.names]
      have := fold_ups (names := []) (fun u hu => by cases hu) [] 0 t.ups
      have e0 : cs [] 0 [] = [] := rfl
      rw [e0] at this
      rw [this]
      unfold cs
      simp
    split
    · rename_i he
      have he : jn (lit "/") (List.replicate t.ups (lit "..") ++ t.names) = [] := by simpa using he
      have : List.replicate t.ups (lit "..") ++ t.names = [] := by
        cases q : List.replicate t.ups (lit "..") ++ t.names with
        | nil => rfl
        | cons a r =>
          rw [q] at he
          have ha := hne a (by rw [q]; exact List.mem_cons_self)
          exfalso
          cases r with
          | nil => exact ha he
          | cons b r =>
            have he : a ++ lit "/" ++ jn (lit "/") (b :: r) = [] := he
            simp [show lit "/" = [47] from rfl] at he
      rw [← hfold, this]
      rfl
    · have hj := jn_head (ps := List.replicate t.ups (lit "..") ++ t.names) (fun u hu => hne u (List.mem_of_mem_head? hu)) hsep
      unfold sem
      rw [sr_rel hj]
      dsimp only
      rw [fold_jn _ _ _ hsep, hfold]
  · have h1 : (t.root == lit "") = false := beq_eq_false_iff_ne.mpr hr
    rw [h1]
    simp only [Bool.false_eq_true, if_false]
    have hr' : t.root = [47] ∨ t.root = [47, 47] := by
      rcases h.root with q | q
      · exact absurd q hr
      · exact q
    unfold sem
    rw [sr_rooted hr' (good_jn h.names)]
    dsimp only
    rw [fold_jn _ _ _ (fun u hu => (h.names u hu).sep), fold_good h.names]
    unfold cs
    rw [if_neg hr]
noncomputable def wordOf (t : TS) (k : Nat) (x : Int) : List Nat := frontOf (wayOf x k) k ++ jn (lit "/") (pieces1 (pieces0 t.names (t.names.take (keepN x k)) (moreOf x) (wayOf x k)) (detOf x k))
theorem head_app {a b : List Nat} (h : a ≠ []) : (a ++ b).head? = a.head? := by
  cases a with
  | nil => exact absurd rfl h
  | cons => rfl
theorem step_sem {t : TS} (h : Nice t) (k : Nat) (x : Int) : sj (stOf t) (wordOf t k x) = stOf (tstep t k x) := by
  have hg := good_more x
  have hk : ∀ u ∈ t.names.take (keepN x k), Good u := fun u hu => h.names u (List.mem_of_mem_take hu)
  have hkm : ∀ u ∈ t.names.take (keepN x k) ++ moreOf x, Good u := fun u hu => by
    rcases List.mem_append.mp hu with q | q
    · exact hk u q
    · exact hg u q
  have hp0s : ∀ u ∈ pieces0 t.names (t.names.take (keepN x k)) (moreOf x) (wayOf x k), 47 ∉ u ∧ u ≠ [] := fun u hu => by
    unfold pieces0 at hu
    split at hu
    · rcases List.mem_append.mp hu with q | q
      · rw [List.eq_of_mem_replicate q]; exact ⟨ups_sep, by decide⟩
      · exact ⟨(hg u q).sep, (hg u q).ne⟩
    · exact ⟨(hkm u hu).sep, (hkm u hu).ne⟩
  have hsep := pieces1_pc (det := detOf x k) fun u hu => (hp0s u hu).1
  have hhead := jn_head (pieces1_head (det := detOf x k) fun u hu => (hp0s u hu).2) hsep
  have hfold : ∀ r acc, (spl 47 (jn (lit "/") (pieces1 (pieces0 t.names (t.names.take (keepN x k)) (moreOf x) (wayOf x k)) (detOf x k)))).foldl (nstep r) acc = (pieces0 t.names (t.names.take (keepN x k)) (moreOf x) (wayOf x k)).foldl (nstep r) acc := fun r acc => by
    rw [fold_jn _ _ _ hsep, fold_pieces1]
  unfold wordOf
  generalize jn (lit "/") (pieces1 (pieces0 t.names (t.names.take (keepN x k)) (moreOf x) (wayOf x k)) (detOf x k)) = w at hhead hfold
  by_cases hw : wayOf x k < 2
  · have hf : frontOf (wayOf x k) k = [] := by unfold frontOf; rw [if_pos hw]; rfl
    rw [hf, List.nil_append]
    have ha : isAbs w = false := by rw [isAbs_iff]; exact beq_eq_false_iff_ne.mpr hhead
    unfold sj
    rw [ha]
    simp only [Bool.false_eq_true, if_false]
    rw [hfold]
    have hp0 : pieces0 t.names (t.names.take (keepN x k)) (moreOf x) (wayOf x k) = List.replicate (t.names.length - (t.names.take (keepN x k)).length + overOf (t.names.take (keepN x k)) (wayOf x k)) (lit "..") ++ moreOf x := by unfold pieces0; rw [if_pos hw]
    have hro : rootOf t.root (wayOf x k) = t.root := by unfold rootOf; rw [if_pos hw]
    have hup : upsOf t.ups (t.names.take (keepN x k)) (wayOf x k) = t.ups + overOf (t.names.take (keepN x k)) (wayOf x k) := by unfold upsOf; rw [if_pos hw]
    show (t.root, _) = (rootOf t.root (wayOf x k), cs (rootOf t.root (wayOf x k)) (upsOf t.ups (t.names.take (keepN x k)) (wayOf x k)) (t.names.take (keepN x k) ++ moreOf x))
    rw [hro, hup, hp0, List.foldl_append]
    congr 1
    show (moreOf x).foldl (nstep t.root) ((List.replicate _ (lit "..")).foldl (nstep t.root) (cs t.root t.ups t.names)) = _
    rw [fold_ups h.names, fold_good hg]
    have hlk : (t.names.take (keepN x k)).length ≤ t.names.length := by rw [List.length_take]; (first | lia | omega)
    have e1 : t.names.length - (t.names.take (keepN x k)).length + overOf (t.names.take (keepN x k)) (wayOf x k) - t.names.length = overOf (t.names.take (keepN x k)) (wayOf x k) ∧ t.names.take (t.names.length - (t.names.length - (t.names.take (keepN x k)).length + overOf (t.names.take (keepN x k)) (wayOf x k))) = t.names.take (keepN x k) := by
      generalize ek : t.names.take (keepN x k) = kept at *
      unfold overOf
      by_cases hke : kept = []
      · rw [hke]
        simp only [List.length_nil, Nat.sub_zero, beq_self_eq_true, if_true]
        exact ⟨by (first | lia | omega), by rw [show t.names.length - (t.names.length + wayOf x k) = 0 by (first | lia | omega)]; rfl⟩
      · have : (kept == []) = false := beq_eq_false_iff_ne.mpr hke
        rw [this]
        simp only [Bool.false_eq_true, if_false, Nat.add_zero]
        refine ⟨?_, ?_⟩
        · have : 0 < kept.length := List.length_pos_iff.mpr hke
          (first | lia | omega)
        · rw [show t.names.length - (t.names.length - kept.length) = kept.length by (first | lia | omega), ← ek, List.length_take]
          rcases Nat.le_total (keepN x k) t.names.length with q | q
          · rw [Nat.min_eq_left q]
          · rw [Nat.min_eq_right q, List.take_length, List.take_of_length_le q]
    rw [e1.1, e1.2]
    unfold cs
    rw [List.append_assoc]
  · have hro : rootOf t.root (wayOf x k) = if wayOf x k == 2 then [47] else [47, 47] := by unfold rootOf; rw [if_neg hw]; rfl
    have hr' : rootOf t.root (wayOf x k) = [47] ∨ rootOf t.root (wayOf x k) = [47, 47] := by
      rw [hro]; split
      · exact .inl rfl
      · exact .inr rfl
    have hrn : rootOf t.root (wayOf x k) ≠ [] := by rcases hr' with q | q <;> (rw [q]; simp)
    have hp0 : pieces0 t.names (t.names.take (keepN x k)) (moreOf x) (wayOf x k) = t.names.take (keepN x k) ++ moreOf x := by unfold pieces0; rw [if_neg hw]
    have hsem : sem (frontOf (wayOf x k) k ++ w) = (rootOf t.root (wayOf x k), t.names.take (keepN x k) ++ moreOf x) := by
      have base : ∀ r : List Nat, (spl 47 w).foldl (nstep r) [] = t.names.take (keepN x k) ++ moreOf x := fun r => by
        rw [hfold, hp0, fold_good hkm]; rfl
      have hfr : frontOf (wayOf x k) k = if wayOf x k == 2 && k % 2 == 1 then [47, 47, 47] else rootOf t.root (wayOf x k) := by
        unfold frontOf rootOf; rw [if_neg hw, if_neg hw, if_neg hw]; rfl
      rw [hfr]
      split
      · rename_i hc
        have hw2 : (wayOf x k == 2) = true := by
          cases q : wayOf x k == 2 with
          | true => rfl
          | false => rw [q] at hc; cases hc
        rw [hro, hw2]
        simp only [if_true]
        unfold sem
        rw [sr_app _ _ hhead]
        show ([47], (spl 47 ([47, 47] ++ w)).foldl (nstep [47]) []) = _
        have : spl 47 ([47, 47] ++ w) = [] :: [] :: spl 47 w := rfl
        rw [this, List.foldl_cons, List.foldl_cons, nstep_nil, nstep_nil, base]
      · unfold sem
        rw [sr_rooted hr' hhead]
        dsimp only
        rw [base]
    have ha : isAbs (frontOf (wayOf x k) k ++ w) = true := by
      have hfr : frontOf (wayOf x k) k = if wayOf x k == 2 && k % 2 == 1 then [47, 47, 47] else rootOf t.root (wayOf x k) := by
        unfold frontOf rootOf; rw [if_neg hw, if_neg hw, if_neg hw]; rfl
      rw [isAbs_iff, hfr]
      split
      · rfl
      · rcases hr' with q | q <;> (rw [q]; rfl)
    unfold sj
    rw [ha, if_pos rfl, hsem]
    show _ = (rootOf t.root (wayOf x k), cs (rootOf t.root (wayOf x k)) (upsOf t.ups (t.names.take (keepN x k)) (wayOf x k)) (t.names.take (keepN x k) ++ moreOf x))
    unfold cs
    rw [if_neg hrn]
    rfl
theorem nice_take (ns : List Int) : ∀ i, i ≤ ns.length → Nice (tourS (ns.take i))
  | 0, _ => ⟨.inl rfl, fun u hu => by cases hu⟩
  | i + 1, hi => by
    have hx : ns[i]? = some ns[i] := List.getElem?_eq_getElem hi
    rw [tourS_take hx]
    exact (nice_take ns i (by (first | lia | omega))).step _ _
theorem take_tour (ns : List Int) (h : ns.length ≤ 6) : ∀ n, n ≤ ns.length → ∀ i, i ≤ n → (tourS (ns.take n)).words.take (i + 1) = (tourS (ns.take i)).words ∧ (tourS (ns.take n)).places.take (i + 1) = (tourS (ns.take i)).places := by
  intro n
  induction n with
  | zero =>
    intro _ i hi
    obtain rfl : i = 0 := by (first | lia | omega)
    exact ⟨rfl, rfl⟩
  | succ n ih =>
    intro hn i hi
    have hsm := small_take ns h
    rcases Nat.lt_or_ge n i with q | q
    · obtain rfl : i = n + 1 := by (first | lia | omega)
      have s := hsm (n + 1) hn
      exact ⟨List.take_of_length_le (by rw [s.words]; (first | lia | omega)), List.take_of_length_le (by rw [s.places]; (first | lia | omega))⟩
    · have hx : ns[n]? = some ns[n] := List.getElem?_eq_getElem hn
      have s := hsm n (by (first | lia | omega))
      obtain ⟨a, b⟩ := ih (by (first | lia | omega)) i q
      rw [tourS_take hx]
      refine ⟨?_, ?_⟩
      · show ((tourS (ns.take n)).words ++ [_]).take (i + 1) = _
        rw [List.take_append_of_le_length (by rw [s.words]; (first | lia | omega)), a]
      · show ((tourS (ns.take n)).places ++ [_]).take (i + 1) = _
        rw [List.take_append_of_le_length (by rw [s.places]; (first | lia | omega)), b]
theorem place_last (ns : List Int) (h : ns.length ≤ 6) : ∀ i, i ≤ ns.length → (tourS (ns.take i)).places.getD i [] = placeOf (tourS (ns.take i)).root (tourS (ns.take i)).ups (tourS (ns.take i)).names
  | 0, _ => rfl
  | i + 1, hi => by
    have hx : ns[i]? = some ns[i] := List.getElem?_eq_getElem hi
    have s := small_take ns h i (by (first | lia | omega))
    rw [tourS_take hx]
    show ((tourS (ns.take i)).places ++ [_]).getD (i + 1) [] = _
    have : ((tourS (ns.take i)).places).length = i + 1 := s.places
    rw [List.getD_eq_getElem?_getD, ← this, List.getElem?_append_right (Nat.le_refl _), Nat.sub_self]
    rfl
theorem place_at (ns : List Int) (h : ns.length ≤ 6) {i : Nat} (hi : i ≤ ns.length) : (tourS ns).places.getD i [] = placeOf (tourS (ns.take i)).root (tourS (ns.take i)).ups (tourS (ns.take i)).names := by
  have e := (take_tour ns h ns.length (Nat.le_refl _) i hi).2
  rw [List.take_length] at e
  rw [← place_last ns h i hi, ← e, List.getD_eq_getElem?_getD, List.getD_eq_getElem?_getD, List.getElem?_take_of_lt (Nat.lt_succ_self _)]
theorem fold_words (ns : List Int) (h : ns.length ≤ 6) (k : Nat) : ∀ e, k ≤ e → e ≤ ns.length → (((tourS ns).words.take (e + 1)).drop (k + 1)).foldl sj (stOf (tourS (ns.take k))) = stOf (tourS (ns.take e)) := by
  intro e
  induction e with
  | zero =>
    intro hk _
    obtain rfl : k = 0 := by (first | lia | omega)
    have e := (take_tour ns h ns.length (Nat.le_refl _) 0 (Nat.zero_le _)).1
    rw [List.take_length] at e
    rw [e]
    rfl
  | succ e ih =>
    intro hk he
    have s := small_take ns h
    rcases Nat.lt_or_ge e k with q | q
    · obtain rfl : k = e + 1 := by (first | lia | omega)
      rw [List.drop_of_length_le (by rw [List.length_take]; (first | lia | omega))]
      rfl
    · have hx : ns[e]? = some ns[e] := List.getElem?_eq_getElem he
      have e1 := (take_tour ns h ns.length (Nat.le_refl _) (e + 1) he).1
      have e0 := (take_tour ns h ns.length (Nat.le_refl _) e (by (first | lia | omega))).1
      rw [List.take_length] at e1 e0
      have ih' := ih q (by (first | lia | omega))
      rw [e0] at ih'
      rw [e1, tourS_take hx]
      have hwl := (s e (by (first | lia | omega))).words
      show (((tourS (ns.take e)).words ++ [wordOf (tourS (ns.take e)) e ns[e]]).drop (k + 1)).foldl sj _ = _
      rw [List.drop_append_of_le_length (by rw [hwl]; (first | lia | omega)), List.foldl_append, ih']
      exact step_sem (nice_take ns e (by (first | lia | omega))) e ns[e]
theorem law_ok (ns : List Int) (h : ns.length ≤ 6) : LawOk ns := by
  have s := small_take ns h ns.length (Nat.le_refl _)
  rw [List.take_length] at s
  have hwl := s.words
  have part : ∀ k e, k ≤ e → e ≤ ns.length → ∀ a, sem a = stOf (tourS (ns.take k)) → normS (textS (a :: ((tourS ns).words.take (e + 1)).drop (k + 1))) = (tourS ns).places.getD e [] := fun k e hk he a ha => by
    rw [← join_text, norm_render, sem_join, ha, fold_words ns h k e hk he, render_place, place_at ns h he]
  refine ⟨toks_lineS _ _ hwl 1, fun k hk => ?_, fun k e hk he => ?_, join_text⟩
  · have e0 := (take_tour ns h ns.length (Nat.le_refl _) 0 (Nat.zero_le _)).1
    rw [List.take_length] at e0
    have e0 : (tourS ns).words.take 1 = [[]] := e0
    have := part 0 k (Nat.zero_le _) (by (first | lia | omega)) [] rfl
    have eh : [] :: ((tourS ns).words.take (k + 1)).drop 1 = (tourS ns).words.take (k + 1) := by
      cases q : (tourS ns).words with
      | nil => rw [q] at e0; cases e0
      | cons a r =>
        rw [q] at e0
        have : a = [] := by simpa using e0
        subst this
        rfl
    rw [eh] at this
    exact this
  · have hkn : k ≤ ns.length := by (first | lia | omega)
    have ha : sem ((tourS ns).places.getD k []) = stOf (tourS (ns.take k)) := by
      rw [place_at ns h hkn, sem_place (nice_take ns k hkn)]
    have := part k (e - 1) (by (first | lia | omega)) (by (first | lia | omega)) _ ha
    rw [show e - 1 + 1 = e by (first | lia | omega)] at this
    exact this
end Mine
end
namespace Mine
theorem pre.tw10015524937885077927 : True := trivial
theorem pre.tw10044561868334473724 : True := trivial
theorem pre.tw10076176308756319302 : True := trivial
theorem pre.tw10081424396695799798 : True := trivial
theorem pre.tw10082907932402245024 : True := trivial
theorem pre.tw10087775131645468021 : True := trivial
theorem pre.tw10090824343072562737 : True := trivial
theorem pre.tw10113969621122798791 : True := trivial
theorem pre.tw10125758760863536837 : True := trivial
theorem pre.tw10146783342369464782 : True := trivial
theorem pre.tw10147078004011405896 : True := trivial
theorem pre.tw10160386695743170243 : True := trivial
theorem pre.tw10164409261778184983 : True := trivial
theorem pre.tw10187916627292559898 : True := trivial
theorem pre.tw10189427237366537824 : True := trivial
theorem pre.tw10200316270479576745 : True := trivial
theorem pre.tw10204019117609856550 : True := trivial
theorem pre.tw10206649569281794909 : True := trivial
theorem pre.tw10214055764279734392 : True := trivial
theorem pre.tw10237965803914920136 : True := trivial
theorem pre.tw10239977530965464410 : True := trivial
theorem pre.tw10265037889503362299 : True := trivial
theorem pre.tw10280530779420128321 : True := trivial
theorem pre.tw10281252085104320626 : True := trivial
theorem pre.tw10282910999690396071 : True := trivial
theorem pre.tw103090467789809506 : True := trivial
theorem pre.tw10328206665909114841 : True := trivial
theorem pre.tw10341834341050010729 : True := trivial
theorem pre.tw1036727860245526680 : True := trivial
theorem pre.tw10371956927699436932 : True := trivial
theorem pre.tw10385110680033436173 : True := trivial
theorem pre.tw10392466030464386394 : True := trivial
theorem pre.tw10403087415203366090 : True := trivial
theorem pre.tw10408196067039045116 : True := trivial
theorem pre.tw10413467832773122243 : True := trivial
theorem pre.tw10414127223855424476 : True := trivial
theorem pre.tw10434413882316787161 : True := trivial
theorem pre.tw10439786889021076802 : True := trivial
theorem pre.tw10453307072475824765 : True := trivial
theorem pre.tw10468174215700461262 : True := trivial
theorem pre.tw10468212151498202211 : True := trivial
theorem pre.tw10476441753547339612 : True := trivial
theorem pre.tw10499918063354106577 : True := trivial
theorem pre.tw10507927664415401742 : True := trivial
theorem pre.tw1050892389064381581 : True := trivial
theorem pre.tw10534597610666090110 : True := trivial
theorem pre.tw10545166632633882006 : True := trivial
theorem pre.tw10556904025073309525 : True := trivial
theorem pre.tw10561264332467912730 : True := trivial
theorem pre.tw10565415088359392860 : True := trivial
theorem pre.tw1057954569311207356 : True := trivial
theorem pre.tw10581439449847712507 : True := trivial
theorem pre.tw10584150303738031772 : True := trivial
theorem pre.tw10599180826098775910 : True := trivial
theorem pre.tw10608263239615736262 : True := trivial
theorem pre.tw10626571451207548414 : True := trivial
theorem pre.tw10639230117381546605 : True := trivial
theorem pre.tw10650780140053060413 : True := trivial
theorem pre.tw10657489962057554541 : True := trivial
theorem pre.tw10661630987990644017 : True := trivial
theorem pre.tw10687810578665591079 : True := trivial
theorem pre.tw10698611584128875344 : True := trivial
theorem pre.tw10702986827652628307 : True := trivial
theorem pre.tw10706248444730804230 : True := trivial
theorem pre.tw10725728843894480583 : True := trivial
theorem pre.tw10729921393474900309 : True := trivial
theorem pre.tw10737222129261385809 : True := trivial
theorem pre.tw10740070326456252 : True := trivial
theorem pre.tw10745743812262567515 : True := trivial
theorem pre.tw10748540134757289344 : True := trivial
theorem pre.tw10759281429883650021 : True := trivial
theorem pre.tw10761076091810929229 : True := trivial
theorem pre.tw10769317117293817610 : True := trivial
theorem pre.tw10800338444323084166 : True := trivial
theorem pre.tw10803326305706198563 : True := trivial
theorem pre.tw10811858318122886207 : True := trivial
theorem pre.tw10825175782560779031 : True := trivial
theorem pre.tw10826855031431747367 : True := trivial
theorem pre.tw10838269436919045921 : True := trivial
theorem pre.tw1084046515780495370 : True := trivial
theorem pre.tw10854850429988195255 : True := trivial
theorem pre.tw10862928788324820490 : True := trivial
theorem pre.tw10872959272460594721 : True := trivial
theorem pre.tw10875178812920396530 : True := trivial
theorem pre.tw10883177266234983643 : True := trivial
theorem pre.tw10895488247777486873 : True := trivial
theorem pre.tw10898531069055014255 : True := trivial
theorem pre.tw10900934667459561231 : True := trivial
theorem pre.tw10913301818508414244 : True := trivial
theorem pre.tw10933684431934463483 : True := trivial
theorem pre.tw10969138650947352399 : True := trivial
theorem pre.tw10969839467987141160 : True := trivial
theorem pre.tw1097192228512460407 : True := trivial
theorem pre.tw11013445485161148848 : True := trivial
theorem pre.tw11017171257214358237 : True := trivial
theorem pre.tw11024471812280539897 : True := trivial
theorem pre.tw11025116564825935721 : True := trivial
theorem pre.tw11027227434270867490 : True := trivial
theorem pre.tw11036790588545027871 : True := trivial
theorem pre.tw11040940161938288800 : True := trivial
theorem pre.tw11053206675565139742 : True := trivial
theorem pre.tw11073410698860281424 : True := trivial
theorem pre.tw11074740860101308379 : True := trivial
theorem pre.tw11148861247966702179 : True := trivial
theorem pre.tw1115305340651876602 : True := trivial
theorem pre.tw11162218818218374916 : True := trivial
theorem pre.tw11163290982899316209 : True := trivial
theorem pre.tw11167059680745534066 : True := trivial
theorem pre.tw11209082614711818819 : True := trivial
theorem pre.tw11215584637058903160 : True := trivial
theorem pre.tw11217650761232438337 : True := trivial
theorem pre.tw11222532596367876275 : True := trivial
theorem pre.tw1125013926404085923 : True := trivial
theorem pre.tw11257831631617172875 : True := trivial
theorem pre.tw11277941191031934518 : True := trivial
theorem pre.tw11284865921022033131 : True := trivial
theorem pre.tw11296714898696129027 : True := trivial
theorem pre.tw1130782409234065881 : True := trivial
theorem pre.tw11326023277372236572 : True := trivial
theorem pre.tw11336113306697980977 : True := trivial
theorem pre.tw11340530875997192382 : True := trivial
theorem pre.tw11366831143876363798 : True := trivial
theorem pre.tw1137472074860834748 : True := trivial
theorem pre.tw11375219790182947859 : True := trivial
theorem pre.tw11383056963669434997 : True := trivial
theorem pre.tw11389374557681466464 : True := trivial
theorem pre.tw11391727011462572733 : True := trivial
theorem pre.tw11399554475807630645 : True := trivial
theorem pre.tw11404711845346167456 : True := trivial
theorem pre.tw11422953727881016366 : True := trivial
theorem pre.tw11426871247191671127 : True := trivial
theorem pre.tw11436948381921793342 : True := trivial
theorem pre.tw11438267325586738194 : True := trivial
theorem pre.tw11460421374433590107 : True := trivial
theorem pre.tw11460882829138315760 : True := trivial
theorem pre.tw11477163547676270809 : True := trivial
theorem pre.tw11503594281751030923 : True := trivial
theorem pre.tw1152251697284854588 : True := trivial
theorem pre.tw11523950267086266003 : True := trivial
theorem pre.tw11527965311282865643 : True := trivial
theorem pre.tw11536535957848331366 : True := trivial
theorem pre.tw11537654907502599456 : True := trivial
theorem pre.tw11537949027174240149 : True := trivial
theorem pre.tw11543044455686004630 : True := trivial
theorem pre.tw11543835697850952964 : True := trivial
theorem pre.tw11552245175923710644 : True := trivial
theorem pre.tw11556427088581199248 : True := trivial
theorem pre.tw11600251252059698432 : True := trivial
theorem pre.tw11602764287714613013 : True := trivial
theorem pre.tw11616324120643886898 : True := trivial
theorem pre.tw11629526586953702785 : True := trivial
theorem pre.tw11631671883395410915 : True := trivial
theorem pre.tw11632232044515301145 : True := trivial
theorem pre.tw11655996563961722963 : True := trivial
theorem pre.tw11661301954698094502 : True := trivial
theorem pre.tw11661489554611879777 : True := trivial
theorem pre.tw1167468095371924960 : True := trivial
theorem pre.tw11686044155741065774 : True := trivial
theorem pre.tw11688248576285857382 : True := trivial
theorem pre.tw11709729202449460264 : True := trivial
theorem pre.tw11719011112312721310 : True := trivial
theorem pre.tw11721085774466221495 : True := trivial
theorem pre.tw11725074499523217380 : True := trivial
theorem pre.tw11744125417969673082 : True := trivial
theorem pre.tw11758919703284071077 : True := trivial
theorem pre.tw11794707169875229194 : True := trivial
theorem pre.tw1179835056281040215 : True := trivial
theorem pre.tw11800060536189567013 : True := trivial
theorem pre.tw11807707852439780314 : True := trivial
theorem pre.tw11807840263117641835 : True := trivial
theorem pre.tw11811468184622747898 : True := trivial
theorem pre.tw11840078152996125829 : True := trivial
theorem pre.tw11866977578451056507 : True := trivial
theorem pre.tw11886511571569672312 : True := trivial
theorem pre.tw1188713315722822093 : True := trivial
theorem pre.tw11896619508921577830 : True := trivial
theorem pre.tw1190024003380639046 : True := trivial
theorem pre.tw11905930611378980011 : True := trivial
theorem pre.tw11933007230128469311 : True := trivial
theorem pre.tw1193405430945104512 : True := trivial
theorem pre.tw11937174233294974094 : True := trivial
theorem pre.tw11955107930369133716 : True := trivial
theorem pre.tw11967863500246565877 : True := trivial
theorem pre.tw11974544474020069753 : True := trivial
theorem pre.tw1198834493289035332 : True := trivial
theorem pre.tw11994056375569907634 : True := trivial
theorem pre.tw11999470062837010498 : True := trivial
theorem pre.tw12008284081518090527 : True := trivial
theorem pre.tw12067314844099819299 : True := trivial
theorem pre.tw12080334797578893257 : True := trivial
theorem pre.tw12083045007366768754 : True := trivial
theorem pre.tw12094037042135639284 : True := trivial
theorem pre.tw12094493924935785403 : True := trivial
theorem pre.tw1210447333156124587 : True := trivial
theorem pre.tw12109822677291299447 : True := trivial
theorem pre.tw1211527452617890492 : True := trivial
theorem pre.tw12135947501888123584 : True := trivial
theorem pre.tw1220156853476297361 : True := trivial
theorem pre.tw12207979575903243240 : True := trivial
theorem pre.tw12209519486425430729 : True := trivial
theorem pre.tw12255244043561968749 : True := trivial
theorem pre.tw12266068390854616764 : True := trivial
theorem pre.tw12274083203712686582 : True := trivial
theorem pre.tw12285278899058290007 : True := trivial
theorem pre.tw12311141795422326795 : True := trivial
theorem pre.tw12326214816875916668 : True := trivial
theorem pre.tw12329847798736442354 : True := trivial
theorem pre.tw12334500575609459299 : True := trivial
theorem pre.tw12342194778743831563 : True := trivial
theorem pre.tw12349771046557744352 : True := trivial
theorem pre.tw12354323748567133018 : True := trivial
theorem pre.tw12355011657982118343 : True := trivial
theorem pre.tw12361741206388785723 : True := trivial
theorem pre.tw12378513206065625393 : True := trivial
theorem pre.tw12383853244658283774 : True := trivial
theorem pre.tw12386414374684733726 : True := trivial
theorem pre.tw12392402222983499087 : True := trivial
theorem pre.tw12395428848434107869 : True := trivial
theorem pre.tw12401117505882251034 : True := trivial
theorem pre.tw12403049741140639925 : True := trivial
theorem pre.tw12407526923564011875 : True := trivial
theorem pre.tw12416490208111515098 : True := trivial
theorem pre.tw12418797854399735296 : True := trivial
theorem pre.tw12426945363379701983 : True := trivial
theorem pre.tw12432920758591120510 : True := trivial
theorem pre.tw124356168213406971 : True := trivial
theorem pre.tw12459944980348661945 : True := trivial
theorem pre.tw12464593357960378961 : True := trivial
theorem pre.tw12465533948053986477 : True := trivial
theorem pre.tw12535269490828362356 : True := trivial
theorem pre.tw12535559812310734543 : True := trivial
theorem pre.tw12537694972569961817 : True := trivial
theorem pre.tw1254562197054820781 : True := trivial
theorem pre.tw12587931400748262714 : True := trivial
theorem pre.tw12600001335209363398 : True := trivial
theorem pre.tw12601736412296754624 : True := trivial
theorem pre.tw12616368867692442667 : True := trivial
theorem pre.tw12633947648045723924 : True := trivial
theorem pre.tw12645074974399163103 : True := trivial
theorem pre.tw12649762778189774171 : True := trivial
theorem pre.tw12660056702362669563 : True := trivial
theorem pre.tw12664686692453631210 : True := trivial
theorem pre.tw12697824874008152134 : True := trivial
theorem pre.tw12701294055307798758 : True := trivial
theorem pre.tw12703727092787662501 : True := trivial
theorem pre.tw12710799010525354702 : True := trivial
theorem pre.tw12723660185843396471 : True := trivial
theorem pre.tw12733608589352874825 : True := trivial
theorem pre.tw12742377366853280901 : True := trivial
theorem pre.tw12761414062525812356 : True := trivial
theorem pre.tw12781737145975727021 : True := trivial
theorem pre.tw1279041113025599724 : True := trivial
theorem pre.tw12811857469333308687 : True := trivial
theorem pre.tw12815759149394313995 : True := trivial
theorem pre.tw12817788008484142495 : True := trivial
theorem pre.tw12831821983160651587 : True := trivial
theorem pre.tw12870492235226052906 : True := trivial
theorem pre.tw12875619472907653855 : True := trivial
theorem pre.tw12878178534192021072 : True := trivial
theorem pre.tw12880541788645676809 : True := trivial
theorem pre.tw12887806261650641631 : True := trivial
theorem pre.tw12908053207889611607 : True := trivial
theorem pre.tw1294650907583078838 : True := trivial
theorem pre.tw12951121588697251329 : True := trivial
theorem pre.tw12951829144241428286 : True := trivial
theorem pre.tw12958764560495682109 : True := trivial
theorem pre.tw12967491051513402608 : True := trivial
theorem pre.tw13000940691022230962 : True := trivial
theorem pre.tw13008609651440163230 : True := trivial
theorem pre.tw13058538615260000453 : True := trivial
theorem pre.tw13058718482965553862 : True := trivial
theorem pre.tw13072543664015830236 : True := trivial
theorem pre.tw13100989638542074149 : True := trivial
theorem pre.tw13105971157969536512 : True := trivial
theorem pre.tw13118643169470780200 : True := trivial
theorem pre.tw13154791759442491802 : True := trivial
theorem pre.tw13155615532978356968 : True := trivial
theorem pre.tw13183579853273010795 : True := trivial
theorem pre.tw1318492232018244425 : True := trivial
theorem pre.tw13207373630104666366 : True := trivial
theorem pre.tw13219623010616926081 : True := trivial
theorem pre.tw13233266800153922966 : True := trivial
theorem pre.tw13233907954065186395 : True := trivial
theorem pre.tw13270450111473526728 : True := trivial
theorem pre.tw13296052988299705865 : True := trivial
theorem pre.tw13301060741803328986 : True := trivial
theorem pre.tw13305933163451760600 : True := trivial
theorem pre.tw13309634041750381979 : True := trivial
theorem pre.tw13344253833810582256 : True := trivial
theorem pre.tw13351082093793056026 : True := trivial
theorem pre.tw13360945233746819068 : True := trivial
theorem pre.tw13361116242005737049 : True := trivial
theorem pre.tw13362910113465662698 : True := trivial
theorem pre.tw13390444084713006456 : True := trivial
theorem pre.tw13425041851662970787 : True := trivial
theorem pre.tw13432984676562683124 : True := trivial
theorem pre.tw13434469736033276543 : True := trivial
theorem pre.tw13442239029060262914 : True := trivial
theorem pre.tw13473257938653289576 : True := trivial
theorem pre.tw13485011769210755737 : True := trivial
theorem pre.tw13497079123847862194 : True := trivial
theorem pre.tw1349713380601400774 : True := trivial
theorem pre.tw13510392928544659033 : True := trivial
theorem pre.tw13511625669976193069 : True := trivial
theorem pre.tw13522265568589874481 : True := trivial
theorem pre.tw13523630300469650738 : True := trivial
theorem pre.tw13549184385285216099 : True := trivial
theorem pre.tw13553595728956396324 : True := trivial
theorem pre.tw1355472273737728239 : True := trivial
theorem pre.tw13557849306413279090 : True := trivial
theorem pre.tw13560132254861834906 : True := trivial
theorem pre.tw13576440264109454273 : True := trivial
theorem pre.tw1357736013493404169 : True := trivial
theorem pre.tw13581183648220302926 : True := trivial
theorem pre.tw13581914421101435890 : True := trivial
theorem pre.tw13594650485535549749 : True := trivial
theorem pre.tw13603406028903039989 : True := trivial
theorem pre.tw1360676278845731055 : True := trivial
theorem pre.tw13663304939719888959 : True := trivial
theorem pre.tw1366701863651607580 : True := trivial
theorem pre.tw13676013984246606415 : True := trivial
theorem pre.tw13682318650815268254 : True := trivial
theorem pre.tw13687150101469624709 : True := trivial
theorem pre.tw13691971330499074810 : True := trivial
theorem pre.tw13693728815753610864 : True := trivial
theorem pre.tw13703688950951389795 : True := trivial
theorem pre.tw13726507724910139435 : True := trivial
theorem pre.tw13743101554249772228 : True := trivial
theorem pre.tw13745232703134344479 : True := trivial
theorem pre.tw13755174768727097353 : True := trivial
theorem pre.tw1375586104308093436 : True := trivial
theorem pre.tw13763285996321713714 : True := trivial
theorem pre.tw13788912459791984228 : True := trivial
theorem pre.tw13798339373520121222 : True := trivial
theorem pre.tw1380000423856559178 : True := trivial
theorem pre.tw13833441566718646061 : True := trivial
theorem pre.tw13839825171144383216 : True := trivial
theorem pre.tw1385352955633275780 : True := trivial
theorem pre.tw13861876547858124076 : True := trivial
theorem pre.tw13886166861046542227 : True := trivial
theorem pre.tw13924473152081393076 : True := trivial
theorem pre.tw13954526434592077084 : True := trivial
theorem pre.tw13976843906036222900 : True := trivial
theorem pre.tw13982623640046944452 : True := trivial
theorem pre.tw13998559181747141959 : True := trivial
theorem pre.tw1404804501358573014 : True := trivial
theorem pre.tw14049592912232508574 : True := trivial
theorem pre.tw14049700936723726727 : True := trivial
theorem pre.tw1405237036650921930 : True := trivial
theorem pre.tw14055543467470474079 : True := trivial
theorem pre.tw14070096154038975331 : True := trivial
theorem pre.tw14071945312867268363 : True := trivial
theorem pre.tw1407430516638827130 : True := trivial
theorem pre.tw14098005303986377415 : True := trivial
theorem pre.tw14100106842997972056 : True := trivial
theorem pre.tw14114672765552503122 : True := trivial
theorem pre.tw14119857955258171848 : True := trivial
theorem pre.tw14120952737985720249 : True := trivial
theorem pre.tw14123470867272453793 : True := trivial
theorem pre.tw1415168951540672763 : True := trivial
theorem pre.tw14151912930409904703 : True := trivial
theorem pre.tw14166425228484597859 : True := trivial
theorem pre.tw14177140955050277880 : True := trivial
theorem pre.tw14177746915815934671 : True := trivial
theorem pre.tw14193552647469303995 : True := trivial
theorem pre.tw14225771672523395777 : True := trivial
theorem pre.tw14246190974242606748 : True := trivial
theorem pre.tw14259511219767783349 : True := trivial
theorem pre.tw14264410955460941182 : True := trivial
theorem pre.tw14273947120583755717 : True := trivial
theorem pre.tw14281683299680095384 : True := trivial
theorem pre.tw14291533711955892710 : True := trivial
theorem pre.tw14299303601055941171 : True := trivial
theorem pre.tw14306145015619403930 : True := trivial
theorem pre.tw14312696782436038295 : True := trivial
theorem pre.tw14325754396027750004 : True := trivial
theorem pre.tw1434513659852478766 : True := trivial
theorem pre.tw14351017677347700437 : True := trivial
theorem pre.tw14370870987140484787 : True := trivial
theorem pre.tw14395311352459334661 : True := trivial
theorem pre.tw14399064185099817418 : True := trivial
theorem pre.tw14413771767276168072 : True := trivial
theorem pre.tw14417016902113386360 : True := trivial
theorem pre.tw14427684124716744070 : True := trivial
theorem pre.tw14435009961475074242 : True := trivial
theorem pre.tw14444961903219069177 : True := trivial
theorem pre.tw14449285765037923149 : True := trivial
theorem pre.tw14450589583574464160 : True := trivial
theorem pre.tw14494258225668917903 : True := trivial
theorem pre.tw14496136862447724967 : True := trivial
theorem pre.tw14503703140465025348 : True := trivial
theorem pre.tw14504007709385416882 : True := trivial
theorem pre.tw14504531411983417640 : True := trivial
theorem pre.tw14514810562896756306 : True := trivial
theorem pre.tw14531996196986799985 : True := trivial
theorem pre.tw14552072348316998079 : True := trivial
theorem pre.tw14558352625883383148 : True := trivial
theorem pre.tw1455952714067624315 : True := trivial
theorem pre.tw14569818649042903867 : True := trivial
theorem pre.tw14574707545230415510 : True := trivial
theorem pre.tw1460140265895278147 : True := trivial
theorem pre.tw14604634542777377977 : True := trivial
theorem pre.tw1460512165978779608 : True := trivial
theorem pre.tw14617172323894378443 : True := trivial
theorem pre.tw1461721406686753112 : True := trivial
theorem pre.tw14621533940505242407 : True := trivial
theorem pre.tw14628187420673343983 : True := trivial
theorem pre.tw14628937901475043668 : True := trivial
theorem pre.tw1464573575505480747 : True := trivial
theorem pre.tw14653366817510400324 : True := trivial
theorem pre.tw14668691457037311518 : True := trivial
theorem pre.tw14682906017988227231 : True := trivial
theorem pre.tw14692586715849441573 : True := trivial
theorem pre.tw14699610846113382384 : True := trivial
theorem pre.tw14706015822013228346 : True := trivial
theorem pre.tw14729298381247315444 : True := trivial
theorem pre.tw14730711463783953388 : True := trivial
theorem pre.tw14735200308600592907 : True := trivial
theorem pre.tw14738858856753719720 : True := trivial
theorem pre.tw14743546183758075578 : True := trivial
theorem pre.tw14759141896685038078 : True := trivial
theorem pre.tw14762862373053229513 : True := trivial
theorem pre.tw14786576528150006301 : True := trivial
theorem pre.tw14795137245576490350 : True := trivial
theorem pre.tw14799090922736141477 : True := trivial
theorem pre.tw14799728766091433518 : True := trivial
theorem pre.tw14810124922256316633 : True := trivial
theorem pre.tw14830637541862481580 : True := trivial
theorem pre.tw1483193340999720005 : True := trivial
theorem pre.tw14844808246951043556 : True := trivial
theorem pre.tw14861680889543947245 : True := trivial
theorem pre.tw14864557699967703993 : True := trivial
theorem pre.tw14876213859306668371 : True := trivial
theorem pre.tw14886475905068634122 : True := trivial
theorem pre.tw14900846445933218180 : True := trivial
theorem pre.tw14912514574167844768 : True := trivial
theorem pre.tw14918332253524367227 : True := trivial
theorem pre.tw1493470869393423090 : True := trivial
theorem pre.tw14952840189108526110 : True := trivial
theorem pre.tw14956700907379398406 : True := trivial
theorem pre.tw14956949743395876630 : True := trivial
theorem pre.tw14967782790706212462 : True := trivial
theorem pre.tw14969818118035582600 : True := trivial
theorem pre.tw14997092623929765099 : True := trivial
theorem pre.tw1500298621992117046 : True := trivial
theorem pre.tw15014073840067177677 : True := trivial
theorem pre.tw15030080830617990340 : True := trivial
theorem pre.tw1505684848213878102 : True := trivial
theorem pre.tw15069200863386898969 : True := trivial
theorem pre.tw15072451838076981461 : True := trivial
theorem pre.tw15130635324320710267 : True := trivial
theorem pre.tw15134581364171413934 : True := trivial
theorem pre.tw15150610759477679955 : True := trivial
theorem pre.tw15151088684518838455 : True := trivial
theorem pre.tw15157351310597916004 : True := trivial
theorem pre.tw15163138362354870673 : True := trivial
theorem pre.tw15166327983344628109 : True := trivial
theorem pre.tw15173693949596110680 : True := trivial
theorem pre.tw15188735699435523753 : True := trivial
theorem pre.tw1519199417220949963 : True := trivial
theorem pre.tw1520456957254355545 : True := trivial
theorem pre.tw15213948989345730223 : True := trivial
theorem pre.tw15216588824572760413 : True := trivial
theorem pre.tw15217419680909575218 : True := trivial
theorem pre.tw15217727220281956571 : True := trivial
theorem pre.tw15221823594294438176 : True := trivial
theorem pre.tw15232964760556270492 : True := trivial
theorem pre.tw15233245896131659966 : True := trivial
theorem pre.tw15259158444574033236 : True := trivial
theorem pre.tw15297249131335816873 : True := trivial
theorem pre.tw1529751665417550278 : True := trivial
theorem pre.tw15300636199408841007 : True := trivial
theorem pre.tw1530791878691487140 : True := trivial
theorem pre.tw15352238061023236430 : True := trivial
theorem pre.tw15353535704898639103 : True := trivial
theorem pre.tw15354233363524444251 : True := trivial
theorem pre.tw15364903961692622375 : True := trivial
theorem pre.tw15365904054364272240 : True := trivial
theorem pre.tw15368396088340907196 : True := trivial
theorem pre.tw15398534770244942525 : True := trivial
theorem pre.tw15437388393797661686 : True := trivial
theorem pre.tw15441961458455654953 : True := trivial
theorem pre.tw15445645701163274691 : True := trivial
theorem pre.tw1545568683907271213 : True := trivial
theorem pre.tw1548490507096624924 : True := trivial
theorem pre.tw1549229056822850840 : True := trivial
theorem pre.tw15493277093261996212 : True := trivial
theorem pre.tw15493549964957691939 : True := trivial
theorem pre.tw15498473891110100217 : True := trivial
theorem pre.tw15507839026132126487 : True := trivial
theorem pre.tw15520610013524155055 : True := trivial
theorem pre.tw15536161198172009993 : True := trivial
theorem pre.tw1553669691080339443 : True := trivial
theorem pre.tw15552298541256452641 : True := trivial
theorem pre.tw15579065872911325979 : True := trivial
theorem pre.tw15592762728748957222 : True := trivial
theorem pre.tw1562247505020969217 : True := trivial
theorem pre.tw15647689743668620191 : True := trivial
theorem pre.tw15651868373517623625 : True := trivial
theorem pre.tw1566006351459327484 : True := trivial
theorem pre.tw15669461163998316122 : True := trivial
theorem pre.tw15673012138393427132 : True := trivial
theorem pre.tw15693213650832224842 : True := trivial
theorem pre.tw15693231618869550497 : True := trivial
theorem pre.tw15715415247232172914 : True := trivial
theorem pre.tw15719284801421608743 : True := trivial
theorem pre.tw15740882699610962088 : True := trivial
theorem pre.tw15759016279856625824 : True := trivial
theorem pre.tw15765245064181666519 : True := trivial
theorem pre.tw1581469347615268745 : True := trivial
theorem pre.tw15842557859280125761 : True := trivial
theorem pre.tw15860054945883511563 : True := trivial
theorem pre.tw1586125870594711978 : True := trivial
theorem pre.tw15866772346339419109 : True := trivial
theorem pre.tw15879928975532852503 : True := trivial
theorem pre.tw1588472962634359447 : True := trivial
theorem pre.tw15889807605483417569 : True := trivial
theorem pre.tw15902897456672317676 : True := trivial
theorem pre.tw15911490980385452904 : True := trivial
theorem pre.tw15922111499388812525 : True := trivial
theorem pre.tw15933674828198250669 : True := trivial
theorem pre.tw15938266042038181645 : True := trivial
theorem pre.tw15947292143589903039 : True := trivial
theorem pre.tw15949119414531429559 : True := trivial
theorem pre.tw15950970198058749793 : True := trivial
theorem pre.tw1595813546943562901 : True := trivial
theorem pre.tw15959152587544918344 : True := trivial
theorem pre.tw15960295388908608368 : True := trivial
theorem pre.tw15963876327690774022 : True := trivial
theorem pre.tw15982020566081794119 : True := trivial
theorem pre.tw16005086589683965965 : True := trivial
theorem pre.tw16006641065708828913 : True := trivial
theorem pre.tw16009375183914227583 : True := trivial
theorem pre.tw16036612889657548223 : True := trivial
theorem pre.tw1605727161319105092 : True := trivial
theorem pre.tw16060858584971102203 : True := trivial
theorem pre.tw16076116134281789259 : True := trivial
theorem pre.tw16076688623283106353 : True := trivial
theorem pre.tw16081092759735292119 : True := trivial
theorem pre.tw16113417813272404427 : True := trivial
theorem pre.tw16113857526326622016 : True := trivial
theorem pre.tw16119640228561101303 : True := trivial
theorem pre.tw16124531445594929297 : True := trivial
theorem pre.tw16125188448779784074 : True := trivial
theorem pre.tw16127161918063582934 : True := trivial
theorem pre.tw16128765463504600789 : True := trivial
theorem pre.tw16160861249259172033 : True := trivial
theorem pre.tw16168587874622757692 : True := trivial
theorem pre.tw16179846050956863552 : True := trivial
theorem pre.tw16187767858317590155 : True := trivial
theorem pre.tw16193113423199527773 : True := trivial
theorem pre.tw16215210742020207868 : True := trivial
theorem pre.tw1623391938288328439 : True := trivial
theorem pre.tw16240936699427935796 : True := trivial
theorem pre.tw16245266301664687678 : True := trivial
theorem pre.tw16248381776914940432 : True := trivial
theorem pre.tw16252858729659398398 : True := trivial
theorem pre.tw16258003978061591434 : True := trivial
theorem pre.tw16265762612027633490 : True := trivial
theorem pre.tw16268650808249262707 : True := trivial
theorem pre.tw16276649843947499858 : True := trivial
theorem pre.tw16282480485781951738 : True := trivial
theorem pre.tw16311438681724539470 : True := trivial
theorem pre.tw16351621045583181747 : True := trivial
theorem pre.tw16390100848651689224 : True := trivial
theorem pre.tw16412851628033232942 : True := trivial
theorem pre.tw16426511730242626275 : True := trivial
theorem pre.tw16432298305098172027 : True := trivial
theorem pre.tw16439466820866485284 : True := trivial
theorem pre.tw16454083421122850771 : True := trivial
theorem pre.tw16460433518853337694 : True := trivial
theorem pre.tw16468145425148066218 : True := trivial
theorem pre.tw16478448404568489257 : True := trivial
theorem pre.tw16509357002047414771 : True := trivial
theorem pre.tw16520217711010471092 : True := trivial
theorem pre.tw16548488670329232957 : True := trivial
theorem pre.tw16548553427736653992 : True := trivial
theorem pre.tw165629645232685827 : True := trivial
theorem pre.tw16592929246403832581 : True := trivial
theorem pre.tw16614817841983588597 : True := trivial
theorem pre.tw16620438919418745515 : True := trivial
theorem pre.tw16631900926151097804 : True := trivial
theorem pre.tw16648276791818689350 : True := trivial
theorem pre.tw16676685420422431488 : True := trivial
theorem pre.tw16679538785077744338 : True := trivial
theorem pre.tw16693862751480270886 : True := trivial
theorem pre.tw16695557501014326387 : True := trivial
theorem pre.tw16713870190011800367 : True := trivial
theorem pre.tw167195477344194434 : True := trivial
theorem pre.tw16733464474038963924 : True := trivial
theorem pre.tw16742638528186956368 : True := trivial
theorem pre.tw16754012666487254268 : True := trivial
theorem pre.tw16756455325785260041 : True := trivial
theorem pre.tw16765384724415575119 : True := trivial
theorem pre.tw16774248013055711041 : True := trivial
theorem pre.tw16783211666425338460 : True := trivial
theorem pre.tw1680595319730573286 : True := trivial
theorem pre.tw16806789364481296987 : True := trivial
theorem pre.tw16830217950749344141 : True := trivial
theorem pre.tw16830677165564596964 : True := trivial
theorem pre.tw16847023559848952204 : True := trivial
theorem pre.tw16847911078522865031 : True := trivial
theorem pre.tw16852057512633287067 : True := trivial
theorem pre.tw16860926614874886958 : True := trivial
theorem pre.tw16867960568107965637 : True := trivial
theorem pre.tw16868648438481985939 : True := trivial
theorem pre.tw1686993885542229018 : True := trivial
theorem pre.tw16872462385479859608 : True := trivial
theorem pre.tw16877657990526577957 : True := trivial
theorem pre.tw16881790071604572563 : True := trivial
theorem pre.tw1691685179661515648 : True := trivial
theorem pre.tw16917681325973596462 : True := trivial
theorem pre.tw16932957983750442952 : True := trivial
theorem pre.tw16935272752293332836 : True := trivial
theorem pre.tw16946379113002105413 : True := trivial
theorem pre.tw16948139422799537480 : True := trivial
theorem pre.tw16950472789293590238 : True := trivial
theorem pre.tw16961990055563860419 : True := trivial
theorem pre.tw16969236973895314278 : True := trivial
theorem pre.tw17037724525892420017 : True := trivial
theorem pre.tw17045452351716072221 : True := trivial
theorem pre.tw17049781961244789399 : True := trivial
theorem pre.tw17070133332105845622 : True := trivial
theorem pre.tw17072138057591227754 : True := trivial
theorem pre.tw17079211932674503613 : True := trivial
theorem pre.tw17081855596339437087 : True := trivial
theorem pre.tw17107443592172624046 : True := trivial
theorem pre.tw1710941945942429370 : True := trivial
theorem pre.tw17121234722466879492 : True := trivial
theorem pre.tw17121270487278716275 : True := trivial
theorem pre.tw17144800999399325522 : True := trivial
theorem pre.tw17159104890394553199 : True := trivial
theorem pre.tw17159290659448952104 : True := trivial
theorem pre.tw1717153024835435999 : True := trivial
theorem pre.tw17172170791606010186 : True := trivial
theorem pre.tw17195531060956537093 : True := trivial
theorem pre.tw17197369198110723768 : True := trivial
theorem pre.tw17209770250588458878 : True := trivial
theorem pre.tw17224984220818489609 : True := trivial
theorem pre.tw17239810003080427239 : True := trivial
theorem pre.tw17256740469989561488 : True := trivial
theorem pre.tw17268093052136287145 : True := trivial
theorem pre.tw17322791324729804408 : True := trivial
theorem pre.tw17348260898159618030 : True := trivial
theorem pre.tw17362207365130225228 : True := trivial
theorem pre.tw17364294265140339206 : True := trivial
theorem pre.tw17370370564525365829 : True := trivial
theorem pre.tw17371336763352832711 : True := trivial
theorem pre.tw17373973320644317417 : True := trivial
theorem pre.tw17382416240756101287 : True := trivial
theorem pre.tw17393727909335451193 : True := trivial
theorem pre.tw17415671022528265162 : True := trivial
theorem pre.tw17434239335780912936 : True := trivial
theorem pre.tw1744327949836340386 : True := trivial
theorem pre.tw17454632208202312435 : True := trivial
theorem pre.tw17459599243879069624 : True := trivial
theorem pre.tw17488862596763448228 : True := trivial
theorem pre.tw17492803454765184847 : True := trivial
theorem pre.tw17494098934108268706 : True := trivial
theorem pre.tw17495582031125062399 : True := trivial
theorem pre.tw17496407225588133573 : True := trivial
theorem pre.tw17520325341793783457 : True := trivial
theorem pre.tw17543582685774590198 : True := trivial
theorem pre.tw17560123984635018555 : True := trivial
theorem pre.tw17578804690641032671 : True := trivial
theorem pre.tw17604894702586950197 : True := trivial
theorem pre.tw1761937695571401622 : True := trivial
theorem pre.tw17620314837498503506 : True := trivial
theorem pre.tw17622296657244975363 : True := trivial
theorem pre.tw17636159353876285127 : True := trivial
theorem pre.tw17663803888476194297 : True := trivial
theorem pre.tw17667743321931789236 : True := trivial
theorem pre.tw17670664521834963977 : True := trivial
theorem pre.tw17680803279675618773 : True := trivial
theorem pre.tw17688428795660124894 : True := trivial
theorem pre.tw17689693154320567649 : True := trivial
theorem pre.tw17701734526436141051 : True := trivial
theorem pre.tw17716019281442140103 : True := trivial
theorem pre.tw17719154283332520451 : True := trivial
theorem pre.tw17721338886324263534 : True := trivial
theorem pre.tw17741798373071631652 : True := trivial
theorem pre.tw17752868804916020736 : True := trivial
theorem pre.tw17778226435121523593 : True := trivial
theorem pre.tw17787253182971307821 : True := trivial
theorem pre.tw17807047550212690472 : True := trivial
theorem pre.tw17813032836175352512 : True := trivial
theorem pre.tw17819266545383817124 : True := trivial
theorem pre.tw17825160944563716921 : True := trivial
theorem pre.tw17828227340868652591 : True := trivial
theorem pre.tw17844419999514078010 : True := trivial
theorem pre.tw17846943324724234284 : True := trivial
theorem pre.tw17858065270976540863 : True := trivial
theorem pre.tw17887223800575259891 : True := trivial
theorem pre.tw1790733852051373372 : True := trivial
theorem pre.tw17910070530471171642 : True := trivial
theorem pre.tw17918348629795459907 : True := trivial
theorem pre.tw17925359564721533412 : True := trivial
theorem pre.tw17925611117028114556 : True := trivial
theorem pre.tw17938041046208675427 : True := trivial
theorem pre.tw17939272534300293457 : True := trivial
theorem pre.tw17947361977853104736 : True := trivial
theorem pre.tw17976908015218160387 : True := trivial
theorem pre.tw1800870900629208879 : True := trivial
theorem pre.tw1801870047683933976 : True := trivial
theorem pre.tw18027193599098250407 : True := trivial
theorem pre.tw18029870961766702844 : True := trivial
theorem pre.tw18031694078856224900 : True := trivial
theorem pre.tw18040480769785357974 : True := trivial
theorem pre.tw1804239493881289374 : True := trivial
theorem pre.tw18051554182355063646 : True := trivial
theorem pre.tw18057085579570120390 : True := trivial
theorem pre.tw18060547212737682071 : True := trivial
theorem pre.tw18069132299588501157 : True := trivial
theorem pre.tw18086203719077836103 : True := trivial
theorem pre.tw18089425775092047878 : True := trivial
theorem pre.tw1811016906506870782 : True := trivial
theorem pre.tw18140870524238921689 : True := trivial
theorem pre.tw1815819980837793090 : True := trivial
theorem pre.tw18159535022986469550 : True := trivial
theorem pre.tw18163912606555442492 : True := trivial
theorem pre.tw18177360088511047037 : True := trivial
theorem pre.tw18184992671779473108 : True := trivial
theorem pre.tw18188991362257156836 : True := trivial
theorem pre.tw18211900475796624456 : True := trivial
theorem pre.tw18221005907692937850 : True := trivial
theorem pre.tw18226761833669384437 : True := trivial
theorem pre.tw18233255370621244900 : True := trivial
theorem pre.tw18236140840165549141 : True := trivial
theorem pre.tw18236615629503518134 : True := trivial
theorem pre.tw18239190411758558136 : True := trivial
theorem pre.tw18246292523971809430 : True := trivial
theorem pre.tw18263078779385443025 : True := trivial
theorem pre.tw18265541610922904615 : True := trivial
theorem pre.tw18289220336440521031 : True := trivial
theorem pre.tw18295764747385488197 : True := trivial
theorem pre.tw18302127490750121730 : True := trivial
theorem pre.tw18305264793221564903 : True := trivial
theorem pre.tw18320262050320308368 : True := trivial
theorem pre.tw18323317257344125845 : True := trivial
theorem pre.tw18334436613972320873 : True := trivial
theorem pre.tw18353081439011116257 : True := trivial
theorem pre.tw18365870355366812114 : True := trivial
theorem pre.tw18389488532209090859 : True := trivial
theorem pre.tw18389932633647924957 : True := trivial
theorem pre.tw18390672383857801629 : True := trivial
theorem pre.tw18394784341053229402 : True := trivial
theorem pre.tw18402382017351711169 : True := trivial
theorem pre.tw18404661647340288845 : True := trivial
theorem pre.tw18412914599796218042 : True := trivial
theorem pre.tw1843158304396948901 : True := trivial
theorem pre.tw18438093692259768995 : True := trivial
theorem pre.tw1845644894802738107 : True := trivial
theorem pre.tw1852827027593634360 : True := trivial
theorem pre.tw1856726917243966932 : True := trivial
theorem pre.tw1862038390331496789 : True := trivial
theorem pre.tw1866502679214164782 : True := trivial
theorem pre.tw1873049638177181067 : True := trivial
theorem pre.tw1874249498367641463 : True := trivial
theorem pre.tw1885593639795240310 : True := trivial
theorem pre.tw1888266733253992116 : True := trivial
theorem pre.tw1891668041915054104 : True := trivial
theorem pre.tw1898391153375240571 : True := trivial
theorem pre.tw1904650795784259396 : True := trivial
theorem pre.tw191430818103548243 : True := trivial
theorem pre.tw1919629146571345435 : True := trivial
theorem pre.tw1928732358181687679 : True := trivial
theorem pre.tw1930618393397767701 : True := trivial
theorem pre.tw1936523389482728524 : True := trivial
theorem pre.tw1957200725488321114 : True := trivial
theorem pre.tw1961266365660868435 : True := trivial
theorem pre.tw1962504550610228895 : True := trivial
theorem pre.tw2008175563879463239 : True := trivial
theorem pre.tw2023158255316727287 : True := trivial
theorem pre.tw2031379530733634568 : True := trivial
theorem pre.tw2035697669160248337 : True := trivial
theorem pre.tw2052764936515813417 : True := trivial
theorem pre.tw2060928204949835143 : True := trivial
theorem pre.tw2080268798377810712 : True := trivial
theorem pre.tw2089006494060957417 : True := trivial
theorem pre.tw2099652476082565067 : True := trivial
theorem pre.tw2112102655614037907 : True := trivial
theorem pre.tw2131085722223489061 : True := trivial
theorem pre.tw2132010668994687906 : True := trivial
theorem pre.tw2142029966526130302 : True := trivial
theorem pre.tw2147516935554881526 : True := trivial
theorem pre.tw2152995962621348627 : True := trivial
theorem pre.tw2178043679170156261 : True := trivial
theorem pre.tw218344672915362569 : True := trivial
theorem pre.tw2186188523146884903 : True := trivial
theorem pre.tw2190013975159438595 : True := trivial
theorem pre.tw2211088625372067537 : True := trivial
theorem pre.tw2217929079282346741 : True := trivial
theorem pre.tw2225078570826168188 : True := trivial
theorem pre.tw2228330938466492814 : True := trivial
theorem pre.tw2232778809141388903 : True := trivial
theorem pre.tw2251609116390407861 : True := trivial
theorem pre.tw2256743641975187207 : True := trivial
theorem pre.tw2274592993101036409 : True := trivial
theorem pre.tw2300347477799481774 : True := trivial
theorem pre.tw2302775849342015749 : True := trivial
theorem pre.tw2317141825784100176 : True := trivial
theorem pre.tw23229285325766062 : True := trivial
theorem pre.tw2331390219146644512 : True := trivial
theorem pre.tw233513186439043119 : True := trivial
theorem pre.tw2339367589048809781 : True := trivial
theorem pre.tw2343828817661375222 : True := trivial
theorem pre.tw2346428165239446087 : True := trivial
theorem pre.tw2377133641937254163 : True := trivial
theorem pre.tw238833536775410855 : True := trivial
theorem pre.tw2395473291922380543 : True := trivial
theorem pre.tw2396028796681411159 : True := trivial
theorem pre.tw2396902225279178085 : True := trivial
theorem pre.tw2397010955817527377 : True := trivial
theorem pre.tw2397149145451843191 : True := trivial
theorem pre.tw2397600347293785389 : True := trivial
theorem pre.tw2397827621436535734 : True := trivial
theorem pre.tw2400968014658280633 : True := trivial
theorem pre.tw2432886682013690578 : True := trivial
theorem pre.tw2437452776379810443 : True := trivial
theorem pre.tw244272678232404362 : True := trivial
theorem pre.tw2451489743283140848 : True := trivial
theorem pre.tw2466824075090004097 : True := trivial
theorem pre.tw246745258367748990 : True := trivial
theorem pre.tw2485658894110249225 : True := trivial
theorem pre.tw2487895064821818521 : True := trivial
theorem pre.tw2491940369216446000 : True := trivial
theorem pre.tw2494791040518364336 : True := trivial
theorem pre.tw2495331874266312815 : True := trivial
theorem pre.tw2524716203913420826 : True := trivial
theorem pre.tw2532313432198304981 : True := trivial
theorem pre.tw2548036662005642004 : True := trivial
theorem pre.tw2570518636118495876 : True := trivial
theorem pre.tw2572576715449792082 : True := trivial
theorem pre.tw2587026302021944512 : True := trivial
theorem pre.tw2602806933246586413 : True := trivial
theorem pre.tw2604750057091345274 : True := trivial
theorem pre.tw2628207395841811867 : True := trivial
theorem pre.tw2685769913355251762 : True := trivial
theorem pre.tw2687864925274187736 : True := trivial
theorem pre.tw2695608436384278362 : True := trivial
theorem pre.tw2698406003406733457 : True := trivial
theorem pre.tw2698468114796561683 : True := trivial
theorem pre.tw2700457726306907093 : True := trivial
theorem pre.tw2746298385490747558 : True := trivial
theorem pre.tw2749649739559614557 : True := trivial
theorem pre.tw2751941228230246166 : True := trivial
theorem pre.tw2757422977490210068 : True := trivial
theorem pre.tw2791234991407930378 : True := trivial
theorem pre.tw28029345213723098 : True := trivial
theorem pre.tw2804415161721870326 : True := trivial
theorem pre.tw2821234631474838268 : True := trivial
theorem pre.tw2823675543060844818 : True := trivial
theorem pre.tw2824571088501544828 : True := trivial
theorem pre.tw2834345416658533467 : True := trivial
theorem pre.tw2834731269343680192 : True := trivial
theorem pre.tw2845884084292650547 : True := trivial
theorem pre.tw2864218492612468839 : True := trivial
theorem pre.tw2864895965086284001 : True := trivial
theorem pre.tw2896793110795482765 : True := trivial
theorem pre.tw2897016659689015487 : True := trivial
theorem pre.tw2901822031365257273 : True := trivial
theorem pre.tw2924357142288256476 : True := trivial
theorem pre.tw2925233773259863158 : True := trivial
theorem pre.tw2928956904955640035 : True := trivial
theorem pre.tw2932979142756789155 : True := trivial
theorem pre.tw2939360125113559344 : True := trivial
theorem pre.tw2945699230887352927 : True := trivial
theorem pre.tw2946340321526017833 : True := trivial
theorem pre.tw2949526638472983035 : True := trivial
theorem pre.tw2952351186612166566 : True := trivial
theorem pre.tw2954634856242801875 : True := trivial
theorem pre.tw2966858327230904955 : True := trivial
theorem pre.tw2987810102671454298 : True := trivial
theorem pre.tw2995007323622402046 : True := trivial
theorem pre.tw3007927034908824560 : True := trivial
theorem pre.tw30198436418510105 : True := trivial
theorem pre.tw3043404853452113065 : True := trivial
theorem pre.tw3075770761106440465 : True := trivial
theorem pre.tw3084166743060496063 : True := trivial
theorem pre.tw3097859360267383691 : True := trivial
theorem pre.tw3098052187495915801 : True := trivial
theorem pre.tw3106863340427143024 : True := trivial
theorem pre.tw3115480854030911637 : True := trivial
theorem pre.tw3125681081002813711 : True := trivial
theorem pre.tw3130254631232275324 : True := trivial
theorem pre.tw3142542386609302197 : True := trivial
theorem pre.tw3144533544089427767 : True := trivial
theorem pre.tw3167722863675667083 : True := trivial
theorem pre.tw3170541150119866131 : True := trivial
theorem pre.tw3174071771391860788 : True := trivial
theorem pre.tw3176701514150509830 : True := trivial
theorem pre.tw3177482973054291679 : True := trivial
theorem pre.tw3180912542993231288 : True := trivial
theorem pre.tw318736995635628298 : True := trivial
theorem pre.tw3192945178032709001 : True := trivial
theorem pre.tw3208729880829562943 : True := trivial
theorem pre.tw3215486391504711009 : True := trivial
theorem pre.tw3222979927687992969 : True := trivial
theorem pre.tw3255749163648138647 : True := trivial
theorem pre.tw3261195165716478934 : True := trivial
theorem pre.tw3265244242500849779 : True := trivial
theorem pre.tw3282370801380543169 : True := trivial
theorem pre.tw3288844609809252072 : True := trivial
theorem pre.tw3290400093450377137 : True := trivial
theorem pre.tw3296117148554882709 : True := trivial
theorem pre.tw3298143795004849813 : True := trivial
theorem pre.tw3313595536998457927 : True := trivial
theorem pre.tw3315437573608009533 : True := trivial
theorem pre.tw3320990447906927523 : True := trivial
theorem pre.tw3323105371621510841 : True := trivial
theorem pre.tw3331293935044646375 : True := trivial
theorem pre.tw3332469467457875577 : True := trivial
theorem pre.tw3347730872318969785 : True := trivial
theorem pre.tw3353492343123135466 : True := trivial
theorem pre.tw3356041089859361635 : True := trivial
theorem pre.tw3356934355852405250 : True := trivial
theorem pre.tw3359152284581843568 : True := trivial
theorem pre.tw3363428373326525988 : True := trivial
theorem pre.tw3367835445250736553 : True := trivial
theorem pre.tw3393237338878983150 : True := trivial
theorem pre.tw3405025227658564200 : True := trivial
theorem pre.tw3434209940311524794 : True := trivial
theorem pre.tw343712557402399189 : True := trivial
theorem pre.tw3440061273344236427 : True := trivial
theorem pre.tw3454045067326159077 : True := trivial
theorem pre.tw3457340705907502972 : True := trivial
theorem pre.tw3457807184112572451 : True := trivial
theorem pre.tw3464787062333305664 : True := trivial
theorem pre.tw3477234190113091826 : True := trivial
theorem pre.tw348168221346353151 : True := trivial
theorem pre.tw3482203876616400270 : True := trivial
theorem pre.tw3490618703851373260 : True := trivial
theorem pre.tw3493510866856412312 : True := trivial
theorem pre.tw3506746782414493739 : True := trivial
theorem pre.tw3507365572986705388 : True := trivial
theorem pre.tw3516474276435052004 : True := trivial
theorem pre.tw3520964475335959063 : True := trivial
theorem pre.tw35304014675073246 : True := trivial
theorem pre.tw3539277104568050316 : True := trivial
theorem pre.tw3553462604430934614 : True := trivial
theorem pre.tw3573333740286578370 : True := trivial
theorem pre.tw3594050934594598752 : True := trivial
theorem pre.tw3594673329630707479 : True := trivial
theorem pre.tw3604714159546111924 : True := trivial
theorem pre.tw3605671674028616559 : True := trivial
theorem pre.tw3608957101317489074 : True := trivial
theorem pre.tw3615518771986402553 : True := trivial
theorem pre.tw3617705362497708231 : True := trivial
theorem pre.tw3641751962990203908 : True := trivial
theorem pre.tw3644608556721293339 : True := trivial
theorem pre.tw364626883998391094 : True := trivial
theorem pre.tw3653203284003021278 : True := trivial
theorem pre.tw3664300762075577915 : True := trivial
theorem pre.tw3667980691405149801 : True := trivial
theorem pre.tw3673693958821703870 : True := trivial
theorem pre.tw3675438630336287220 : True := trivial
theorem pre.tw3689392127960556431 : True := trivial
theorem pre.tw3713487233104801977 : True := trivial
theorem pre.tw3745178552056971020 : True := trivial
theorem pre.tw3765578057562449724 : True := trivial
theorem pre.tw381159937669667793 : True := trivial
theorem pre.tw3817214714522199231 : True := trivial
theorem pre.tw381845577398426587 : True := trivial
theorem pre.tw382528071592061269 : True := trivial
theorem pre.tw3832424061723663896 : True := trivial
theorem pre.tw3837823695312889917 : True := trivial
theorem pre.tw3841362995048172961 : True := trivial
theorem pre.tw3851094194407353107 : True := trivial
theorem pre.tw3852814951786097391 : True := trivial
theorem pre.tw3856971000088348294 : True := trivial
theorem pre.tw3880554561154863583 : True := trivial
theorem pre.tw3890031339511936141 : True := trivial
theorem pre.tw3894931250000681498 : True := trivial
theorem pre.tw3905187941532886221 : True := trivial
theorem pre.tw3905553787817413158 : True := trivial
theorem pre.tw3955983160652177813 : True := trivial
theorem pre.tw397752773609550252 : True := trivial
theorem pre.tw3979294694122409509 : True := trivial
theorem pre.tw4043348016317792891 : True := trivial
theorem pre.tw4046782773337820781 : True := trivial
theorem pre.tw4071294708549967728 : True := trivial
theorem pre.tw4074826885689896570 : True := trivial
theorem pre.tw4084086026405070310 : True := trivial
theorem pre.tw4128864758614092823 : True := trivial
theorem pre.tw4144508531414183275 : True := trivial
theorem pre.tw4150412318488334240 : True := trivial
theorem pre.tw4152689803219824212 : True := trivial
theorem pre.tw415706843491771442 : True := trivial
theorem pre.tw4186475853221050928 : True := trivial
theorem pre.tw4187055054916508448 : True := trivial
theorem pre.tw4189212242694403473 : True := trivial
theorem pre.tw4194276259622635082 : True := trivial
theorem pre.tw419906794060333811 : True := trivial
theorem pre.tw4219693190650936365 : True := trivial
theorem pre.tw4285404430514451813 : True := trivial
theorem pre.tw4286789856935336427 : True := trivial
theorem pre.tw4286845863238312128 : True := trivial
theorem pre.tw4301526565099587235 : True := trivial
theorem pre.tw4320750158210298923 : True := trivial
theorem pre.tw4328567003242560363 : True := trivial
theorem pre.tw4328973332968783691 : True := trivial
theorem pre.tw4342846729049333393 : True := trivial
theorem pre.tw4345953444081587807 : True := trivial
theorem pre.tw4351630123409058234 : True := trivial
theorem pre.tw4377699687317326220 : True := trivial
theorem pre.tw4395660500498307082 : True := trivial
theorem pre.tw4406938201441374700 : True := trivial
theorem pre.tw4445741298225231289 : True := trivial
theorem pre.tw4459828319426263026 : True := trivial
theorem pre.tw4463166427507676326 : True := trivial
theorem pre.tw4467570126312207873 : True := trivial
theorem pre.tw4483331561482796718 : True := trivial
theorem pre.tw4518395722792726126 : True := trivial
theorem pre.tw456585482795024358 : True := trivial
theorem pre.tw4572270608247307934 : True := trivial
theorem pre.tw4579400933631224890 : True := trivial
theorem pre.tw4584739685612888373 : True := trivial
theorem pre.tw4588289598109908893 : True := trivial
theorem pre.tw4592789736104886690 : True := trivial
theorem pre.tw4596934349491692904 : True := trivial
theorem pre.tw461350226436713183 : True := trivial
theorem pre.tw4635852398848889381 : True := trivial
theorem pre.tw4638564955645501015 : True := trivial
theorem pre.tw4668444912690265881 : True := trivial
theorem pre.tw4711207935764839121 : True := trivial
theorem pre.tw4719703091789573585 : True := trivial
theorem pre.tw4745033662307087813 : True := trivial
theorem pre.tw4750520530097938333 : True := trivial
theorem pre.tw4795104192848940145 : True := trivial
theorem pre.tw4799195570872664723 : True := trivial
theorem pre.tw4804073641938854466 : True := trivial
theorem pre.tw4813189827188331005 : True := trivial
theorem pre.tw4827731062090534920 : True := trivial
theorem pre.tw4828037383594925764 : True := trivial
theorem pre.tw4834714738879756663 : True := trivial
theorem pre.tw483849151409873653 : True := trivial
theorem pre.tw4847667195055163794 : True := trivial
theorem pre.tw4850965669925779582 : True := trivial
theorem pre.tw4851183597429405038 : True := trivial
theorem pre.tw4862988989911491521 : True := trivial
theorem pre.tw4866971608788673576 : True := trivial
theorem pre.tw4886116117891900527 : True := trivial
theorem pre.tw489669426845835767 : True := trivial
theorem pre.tw4929539747282975227 : True := trivial
theorem pre.tw4936351757903562790 : True := trivial
theorem pre.tw4955148344418218242 : True := trivial
theorem pre.tw4962551939012031559 : True := trivial
theorem pre.tw4977532880192689841 : True := trivial
theorem pre.tw4989842771519992638 : True := trivial
theorem pre.tw5041800500552361975 : True := trivial
theorem pre.tw504624004826048561 : True := trivial
theorem pre.tw5073893193148433046 : True := trivial
theorem pre.tw5087903103873120873 : True := trivial
theorem pre.tw5089702735698412482 : True := trivial
theorem pre.tw5097403650293934812 : True := trivial
theorem pre.tw5108704623376275203 : True := trivial
theorem pre.tw5121056725896390960 : True := trivial
theorem pre.tw5131142871185379458 : True := trivial
theorem pre.tw5132149768646642409 : True := trivial
theorem pre.tw5134477464369193050 : True := trivial
theorem pre.tw5147264164118438643 : True := trivial
theorem pre.tw5147940517780317557 : True := trivial
theorem pre.tw5149171593143785897 : True := trivial
theorem pre.tw5155193400670720939 : True := trivial
theorem pre.tw5155460320028791640 : True := trivial
theorem pre.tw5161355914259166667 : True := trivial
theorem pre.tw5167664360043482673 : True := trivial
theorem pre.tw5188450790433985288 : True := trivial
theorem pre.tw5197113669841849872 : True := trivial
theorem pre.tw5200111609206221789 : True := trivial
theorem pre.tw5204205118580918101 : True := trivial
theorem pre.tw5221865975571205293 : True := trivial
theorem pre.tw5265556644796053535 : True := trivial
theorem pre.tw5276801110378200506 : True := trivial
theorem pre.tw5281669908752499588 : True := trivial
theorem pre.tw5304326195035948995 : True := trivial
theorem pre.tw5305209116675567593 : True := trivial
theorem pre.tw53099306380025641 : True := trivial
theorem pre.tw531064386457346970 : True := trivial
theorem pre.tw5345757662998838313 : True := trivial
theorem pre.tw5357611183917412809 : True := trivial
theorem pre.tw5367987659174324107 : True := trivial
theorem pre.tw5408335323640409052 : True := trivial
theorem pre.tw5437512993841494299 : True := trivial
theorem pre.tw5448907858149020176 : True := trivial
theorem pre.tw5501858718700392621 : True := trivial
theorem pre.tw5504704829203286782 : True := trivial
theorem pre.tw5510518022562020494 : True := trivial
theorem pre.tw5511226634053924395 : True := trivial
theorem pre.tw5529571019564526221 : True := trivial
theorem pre.tw5532335634301144135 : True := trivial
theorem pre.tw5535241422742807340 : True := trivial
theorem pre.tw5559670671026103597 : True := trivial
theorem pre.tw5568758830717608373 : True := trivial
theorem pre.tw5595801359196983014 : True := trivial
theorem pre.tw5598393306264904314 : True := trivial
theorem pre.tw5602671513192827635 : True := trivial
theorem pre.tw5604504638179651615 : True := trivial
theorem pre.tw5610748640432359222 : True := trivial
theorem pre.tw5616357354536732607 : True := trivial
theorem pre.tw5616495170061840128 : True := trivial
theorem pre.tw5620108448279095879 : True := trivial
theorem pre.tw5637334634875364044 : True := trivial
theorem pre.tw5643329918186634812 : True := trivial
theorem pre.tw5665087536195056907 : True := trivial
theorem pre.tw5671878563555996181 : True := trivial
theorem pre.tw5676418619326071484 : True := trivial
theorem pre.tw5719317115474460775 : True := trivial
theorem pre.tw5743760255766336351 : True := trivial
theorem pre.tw575844109191105748 : True := trivial
theorem pre.tw5763516653477663224 : True := trivial
theorem pre.tw5766315406477915707 : True := trivial
theorem pre.tw5779897831729120596 : True := trivial
theorem pre.tw5810805265866388001 : True := trivial
theorem pre.tw5831422533752641051 : True := trivial
theorem pre.tw5853109291062060874 : True := trivial
theorem pre.tw5857112834756203396 : True := trivial
theorem pre.tw5872671570517017604 : True := trivial
theorem pre.tw5873126227706588489 : True := trivial
theorem pre.tw5877214661122982984 : True := trivial
theorem pre.tw5896042150136470975 : True := trivial
theorem pre.tw5901435557038343362 : True := trivial
theorem pre.tw5915181514357443041 : True := trivial
theorem pre.tw5924994516702538534 : True := trivial
theorem pre.tw5927221388767340725 : True := trivial
theorem pre.tw5929869519953614174 : True := trivial
theorem pre.tw5934979682175915832 : True := trivial
theorem pre.tw5975354984008256931 : True := trivial
theorem pre.tw5981309839300210123 : True := trivial
theorem pre.tw5993297549522566532 : True := trivial
theorem pre.tw5999219517231674561 : True := trivial
theorem pre.tw6007684078494574105 : True := trivial
theorem pre.tw6028351478515201683 : True := trivial
theorem pre.tw6034183652157711674 : True := trivial
theorem pre.tw6035337646253265560 : True := trivial
theorem pre.tw6059149147079634101 : True := trivial
theorem pre.tw6066078960797017802 : True := trivial
theorem pre.tw6073275851595392048 : True := trivial
theorem pre.tw6082872203144470224 : True := trivial
theorem pre.tw6090579922671657071 : True := trivial
theorem pre.tw6096895081738437736 : True := trivial
theorem pre.tw6113691456944727663 : True := trivial
theorem pre.tw6124281414671924328 : True := trivial
theorem pre.tw6135069919958884031 : True := trivial
theorem pre.tw6162163896351624663 : True := trivial
theorem pre.tw6169943143784591808 : True := trivial
theorem pre.tw6170148345488586343 : True := trivial
theorem pre.tw6176834077815538506 : True := trivial
theorem pre.tw6191946801747340685 : True := trivial
theorem pre.tw6199834262694073929 : True := trivial
theorem pre.tw6200877642497208451 : True := trivial
theorem pre.tw6204301905142194262 : True := trivial
theorem pre.tw6210490708589999534 : True := trivial
theorem pre.tw6232320607302061507 : True := trivial
theorem pre.tw6234441718175355761 : True := trivial
theorem pre.tw6260126215559185383 : True := trivial
theorem pre.tw6260614329708484371 : True := trivial
theorem pre.tw6287553749951278490 : True := trivial
theorem pre.tw6288906055440143617 : True := trivial
theorem pre.tw6299593465427465871 : True := trivial
theorem pre.tw6304730108733951041 : True := trivial
theorem pre.tw6308443018428426536 : True := trivial
theorem pre.tw6319488865545141941 : True := trivial
theorem pre.tw6330714749281072045 : True := trivial
theorem pre.tw6340435571348783402 : True := trivial
theorem pre.tw6351735812566225693 : True := trivial
theorem pre.tw6378097429965002321 : True := trivial
theorem pre.tw639394594048736659 : True := trivial
theorem pre.tw6408091250601576225 : True := trivial
theorem pre.tw6422557553253898997 : True := trivial
theorem pre.tw642539401228101880 : True := trivial
theorem pre.tw6431232979522229623 : True := trivial
theorem pre.tw6431469141907341929 : True := trivial
theorem pre.tw6437931551330290438 : True := trivial
theorem pre.tw6444962916596222220 : True := trivial
theorem pre.tw6453602053160676839 : True := trivial
theorem pre.tw6461061339208006267 : True := trivial
theorem pre.tw6468908739991884073 : True := trivial
theorem pre.tw6474204392415820536 : True := trivial
theorem pre.tw6527935159383612297 : True := trivial
theorem pre.tw6528347479533447402 : True := trivial
theorem pre.tw6548938536104458511 : True := trivial
theorem pre.tw6552269318843444617 : True := trivial
theorem pre.tw6556896797409840126 : True := trivial
theorem pre.tw6567427038174304042 : True := trivial
theorem pre.tw6577390841649404470 : True := trivial
theorem pre.tw6581746290310390373 : True := trivial
theorem pre.tw6584187409834229358 : True := trivial
theorem pre.tw6585607741642620234 : True := trivial
theorem pre.tw6594829836706070195 : True := trivial
theorem pre.tw6598987100012212614 : True := trivial
theorem pre.tw6607083473314358230 : True := trivial
theorem pre.tw6615631486209965517 : True := trivial
theorem pre.tw6630880664941729010 : True := trivial
theorem pre.tw6662062504612582415 : True := trivial
theorem pre.tw6668515554523261400 : True := trivial
theorem pre.tw6693823458780594842 : True := trivial
theorem pre.tw6695662797832715526 : True := trivial
theorem pre.tw6706105534445866947 : True := trivial
theorem pre.tw6727137510882091925 : True := trivial
theorem pre.tw6737512137890597438 : True := trivial
theorem pre.tw6756400117972860631 : True := trivial
theorem pre.tw6767112457854269605 : True := trivial
theorem pre.tw6794445924594628285 : True := trivial
theorem pre.tw6797774434363098086 : True := trivial
theorem pre.tw6820731063273427377 : True := trivial
theorem pre.tw6836236995370668385 : True := trivial
theorem pre.tw6841227133047820004 : True := trivial
theorem pre.tw6846343938879960342 : True := trivial
theorem pre.tw6878257296331468561 : True := trivial
theorem pre.tw6878616710033411853 : True := trivial
theorem pre.tw6882613176781099269 : True := trivial
theorem pre.tw6887083531147954808 : True := trivial
theorem pre.tw6889283410179019725 : True := trivial
theorem pre.tw6890879557425943689 : True := trivial
theorem pre.tw6900939869186335862 : True := trivial
theorem pre.tw6910017111400210373 : True := trivial
theorem pre.tw6929168035326652218 : True := trivial
theorem pre.tw6940843216590859999 : True := trivial
theorem pre.tw6943094435638293965 : True := trivial
theorem pre.tw695282062261810739 : True := trivial
theorem pre.tw6973980458608848170 : True := trivial
theorem pre.tw698346005061455353 : True := trivial
theorem pre.tw6984639926880643421 : True := trivial
theorem pre.tw6991682481583635771 : True := trivial
theorem pre.tw7000339930774660035 : True := trivial
theorem pre.tw7012385086442814489 : True := trivial
theorem pre.tw7013023305094394911 : True := trivial
theorem pre.tw7018510450512112952 : True := trivial
theorem pre.tw7027690882501090706 : True := trivial
theorem pre.tw7029597387072911548 : True := trivial
theorem pre.tw703531753867752054 : True := trivial
theorem pre.tw7057373457289706491 : True := trivial
theorem pre.tw7074507562093400758 : True := trivial
theorem pre.tw7078073923619058114 : True := trivial
theorem pre.tw7081568728623791769 : True := trivial
theorem pre.tw708511055324934966 : True := trivial
theorem pre.tw7101573330840209020 : True := trivial
theorem pre.tw7121005283745334362 : True := trivial
theorem pre.tw7130951731668327452 : True := trivial
theorem pre.tw7136441960852767562 : True := trivial
theorem pre.tw7169303959709768404 : True := trivial
theorem pre.tw7172340965931747088 : True := trivial
theorem pre.tw7175507411475442919 : True := trivial
theorem pre.tw7189603720778922217 : True := trivial
theorem pre.tw7202892251663454545 : True := trivial
theorem pre.tw720506306688461391 : True := trivial
theorem pre.tw7205318348024006823 : True := trivial
theorem pre.tw720967126533613957 : True := trivial
theorem pre.tw7226070088885751544 : True := trivial
theorem pre.tw7227131079710277698 : True := trivial
theorem pre.tw7263295312877862200 : True := trivial
theorem pre.tw7264331424420516383 : True := trivial
theorem pre.tw7295464967532305623 : True := trivial
theorem pre.tw7316099461249669598 : True := trivial
theorem pre.tw7358121928555202172 : True := trivial
theorem pre.tw7366312759843222603 : True := trivial
theorem pre.tw7369776879696598097 : True := trivial
theorem pre.tw7383441886188000873 : True := trivial
theorem pre.tw7401911005004442919 : True := trivial
theorem pre.tw7404310320488361791 : True := trivial
theorem pre.tw7404676509923469206 : True := trivial
theorem pre.tw7448233038143464731 : True := trivial
theorem pre.tw745393246336746585 : True := trivial
theorem pre.tw7462887173716235764 : True := trivial
theorem pre.tw7463780462381232343 : True := trivial
theorem pre.tw7466802901070070636 : True := trivial
theorem pre.tw7483454239593532364 : True := trivial
theorem pre.tw7483997866384826519 : True := trivial
theorem pre.tw748543005211245058 : True := trivial
theorem pre.tw7499073896522894488 : True := trivial
theorem pre.tw752845627458314640 : True := trivial
theorem pre.tw7559264692432220869 : True := trivial
theorem pre.tw7564766255729297416 : True := trivial
theorem pre.tw7569232922502155860 : True := trivial
theorem pre.tw7593863048106068273 : True := trivial
theorem pre.tw7599535592181252978 : True := trivial
theorem pre.tw7610475069277692885 : True := trivial
theorem pre.tw7615275554976931207 : True := trivial
theorem pre.tw7621041246751719843 : True := trivial
theorem pre.tw7638957561775903224 : True := trivial
theorem pre.tw7644876413292301570 : True := trivial
theorem pre.tw7714069191498719763 : True := trivial
theorem pre.tw7716752329452128898 : True := trivial
theorem pre.tw7721635546655420929 : True := trivial
theorem pre.tw7744840787576684945 : True := trivial
theorem pre.tw7765017294102619571 : True := trivial
theorem pre.tw7765169976707561600 : True := trivial
theorem pre.tw7766291113635084844 : True := trivial
theorem pre.tw7789758744479696824 : True := trivial
theorem pre.tw779123908392799989 : True := trivial
theorem pre.tw7796558555628133843 : True := trivial
theorem pre.tw7798483633350419733 : True := trivial
theorem pre.tw783068624347048676 : True := trivial
theorem pre.tw7835553667186141386 : True := trivial
theorem pre.tw786768062385650540 : True := trivial
theorem pre.tw7871981215989793078 : True := trivial
theorem pre.tw7872898229747643751 : True := trivial
theorem pre.tw7885391101719497224 : True := trivial
theorem pre.tw7894942737138608775 : True := trivial
theorem pre.tw7902415462288137990 : True := trivial
theorem pre.tw7919558285905939213 : True := trivial
theorem pre.tw7922859449316323072 : True := trivial
theorem pre.tw7939137976696918000 : True := trivial
theorem pre.tw7940267507047246971 : True := trivial
theorem pre.tw7941844341319648258 : True := trivial
theorem pre.tw7964398728579978746 : True := trivial
theorem pre.tw7966273209131274701 : True := trivial
theorem pre.tw7982973417435530293 : True := trivial
theorem pre.tw7996722554845434731 : True := trivial
theorem pre.tw8005181978234717737 : True := trivial
theorem pre.tw8029432505874244354 : True := trivial
theorem pre.tw8049399469915310995 : True := trivial
theorem pre.tw8069484455352915451 : True := trivial
theorem pre.tw807472448215118502 : True := trivial
theorem pre.tw8077660925545611655 : True := trivial
theorem pre.tw8084203361060958488 : True := trivial
theorem pre.tw8099365014796518545 : True := trivial
theorem pre.tw8113819696807641309 : True := trivial
theorem pre.tw8116726039515479556 : True := trivial
theorem pre.tw8137266143111972783 : True := trivial
theorem pre.tw8138631344701588614 : True := trivial
theorem pre.tw8156922865025183133 : True := trivial
theorem pre.tw8157716932100180076 : True := trivial
theorem pre.tw816527670034800298 : True := trivial
theorem pre.tw8165854997704054354 : True := trivial
theorem pre.tw8173156859261085807 : True := trivial
theorem pre.tw8220757499984453353 : True := trivial
theorem pre.tw8243530672080315673 : True := trivial
theorem pre.tw8268476319332111855 : True := trivial
theorem pre.tw8270569564782688562 : True := trivial
theorem pre.tw8274623536164426032 : True := trivial
theorem pre.tw8301558168250483144 : True := trivial
theorem pre.tw8319503031963396419 : True := trivial
theorem pre.tw833301866567259626 : True := trivial
theorem pre.tw8337760666548756109 : True := trivial
theorem pre.tw8340800900347290341 : True := trivial
theorem pre.tw8351358002074471861 : True := trivial
theorem pre.tw8372647370913007536 : True := trivial
theorem pre.tw8373898773283672144 : True := trivial
theorem pre.tw8402380897167423849 : True := trivial
theorem pre.tw8405375194521708774 : True := trivial
theorem pre.tw8406826420958275948 : True := trivial
theorem pre.tw8453378771854712001 : True := trivial
theorem pre.tw8457005357813849076 : True := trivial
theorem pre.tw8458631808026305291 : True := trivial
theorem pre.tw8481123155624819113 : True := trivial
theorem pre.tw848837658066510371 : True := trivial
theorem pre.tw8493967572506692400 : True := trivial
theorem pre.tw8543752526063491055 : True := trivial
theorem pre.tw8547253301701995243 : True := trivial
theorem pre.tw8547720270599350505 : True := trivial
theorem pre.tw8573869083096898766 : True := trivial
theorem pre.tw8578787315887284540 : True := trivial
theorem pre.tw8596954378135426052 : True := trivial
theorem pre.tw8597614749513253487 : True := trivial
theorem pre.tw860865598468570650 : True := trivial
theorem pre.tw8612189142616774538 : True := trivial
theorem pre.tw8625284050711169366 : True := trivial
theorem pre.tw864077919826746950 : True := trivial
theorem pre.tw8641601211533054596 : True := trivial
theorem pre.tw8646183201884414562 : True := trivial
theorem pre.tw8664352643307624021 : True := trivial
theorem pre.tw8667474265487005123 : True := trivial
theorem pre.tw868406912619844004 : True := trivial
theorem pre.tw8684731459436717045 : True := trivial
theorem pre.tw8706321111007445587 : True := trivial
theorem pre.tw8729141346455856134 : True := trivial
theorem pre.tw8733850805744038890 : True := trivial
theorem pre.tw8788556620958981873 : True := trivial
theorem pre.tw8803891551147286165 : True := trivial
theorem pre.tw8860140843094844573 : True := trivial
theorem pre.tw8866184789985215761 : True := trivial
theorem pre.tw8873543438360345982 : True := trivial
theorem pre.tw887588832392732072 : True := trivial
theorem pre.tw8876752385323466679 : True := trivial
theorem pre.tw8880913334673273475 : True := trivial
theorem pre.tw8885635646704019680 : True := trivial
theorem pre.tw8913461469463844015 : True := trivial
theorem pre.tw8917078230242711425 : True := trivial
theorem pre.tw8920949124702778571 : True := trivial
theorem pre.tw8923979195374158045 : True := trivial
theorem pre.tw8928654367325253718 : True := trivial
theorem pre.tw8930372212533436765 : True := trivial
theorem pre.tw8930836413682506088 : True := trivial
theorem pre.tw8935432345942236138 : True := trivial
theorem pre.tw8943764323693412997 : True := trivial
theorem pre.tw8960298273192479886 : True := trivial
theorem pre.tw9001016557014797758 : True := trivial
theorem pre.tw9009641037055772899 : True := trivial
theorem pre.tw9018989078215470512 : True := trivial
theorem pre.tw9048862158676561846 : True := trivial
theorem pre.tw9050843337035243048 : True := trivial
theorem pre.tw9051507843971593453 : True := trivial
theorem pre.tw9066185272433907784 : True := trivial
theorem pre.tw9067012913629212030 : True := trivial
theorem pre.tw9083897124381682314 : True := trivial
theorem pre.tw910344515561249432 : True := trivial
theorem pre.tw9111415880704399196 : True := trivial
theorem pre.tw9125565014483471759 : True := trivial
theorem pre.tw9151484138791663041 : True := trivial
theorem pre.tw9155049887153803488 : True := trivial
theorem pre.tw9164850843295523827 : True := trivial
theorem pre.tw9176242637374153781 : True := trivial
theorem pre.tw9181419433902100537 : True := trivial
theorem pre.tw9200586476409540962 : True := trivial
theorem pre.tw9208899688006206327 : True := trivial
theorem pre.tw9214988361563064799 : True := trivial
theorem pre.tw9229255239157597409 : True := trivial
theorem pre.tw9231099809693827513 : True := trivial
theorem pre.tw9244004356446901926 : True := trivial
theorem pre.tw9245024416317621127 : True := trivial
theorem pre.tw9255289164302583328 : True := trivial
theorem pre.tw9256975013984864979 : True := trivial
theorem pre.tw9269883197500966196 : True := trivial
theorem pre.tw9293138973955870494 : True := trivial
theorem pre.tw93100143179082292 : True := trivial
theorem pre.tw9311681906874320515 : True := trivial
theorem pre.tw9315323111575073388 : True := trivial
theorem pre.tw933960049255431778 : True := trivial
theorem pre.tw9350523959205603150 : True := trivial
theorem pre.tw935756437108297829 : True := trivial
theorem pre.tw9369217769519543500 : True := trivial
theorem pre.tw9376031227849537442 : True := trivial
theorem pre.tw9378550001415264710 : True := trivial
theorem pre.tw940359574218957225 : True := trivial
theorem pre.tw9417649951048186394 : True := trivial
theorem pre.tw9420738287494754972 : True := trivial
theorem pre.tw9450644381542833270 : True := trivial
theorem pre.tw9453402838058930433 : True := trivial
theorem pre.tw9461596500506997382 : True := trivial
theorem pre.tw947662804319873369 : True := trivial
theorem pre.tw947703233379777303 : True := trivial
theorem pre.tw9477358572301557549 : True := trivial
theorem pre.tw9492157947319546548 : True := trivial
theorem pre.tw9497782891654235921 : True := trivial
theorem pre.tw9515016476865632062 : True := trivial
theorem pre.tw9548568642137892244 : True := trivial
theorem pre.tw9552730113335097103 : True := trivial
theorem pre.tw9572689845218978683 : True := trivial
theorem pre.tw9574693462261673410 : True := trivial
theorem pre.tw957805316585988317 : True := trivial
theorem pre.tw9581731058157513931 : True := trivial
theorem pre.tw9609149167571056082 : True := trivial
theorem pre.tw9609260064299363833 : True := trivial
theorem pre.tw9627790767562293617 : True := trivial
theorem pre.tw9639113115496972489 : True := trivial
theorem pre.tw964526151716794910 : True := trivial
theorem pre.tw9655430582155352051 : True := trivial
theorem pre.tw9666290268032686995 : True := trivial
theorem pre.tw9684811492765809210 : True := trivial
theorem pre.tw9692454788166818284 : True := trivial
theorem pre.tw9723439712804030926 : True := trivial
theorem pre.tw9725505161783806060 : True := trivial
theorem pre.tw9726649414176440917 : True := trivial
theorem pre.tw975514567511275540 : True := trivial
theorem pre.tw9755620888258218779 : True := trivial
theorem pre.tw9765124202365795549 : True := trivial
theorem pre.tw9771164203489373354 : True := trivial
theorem pre.tw978303049271185510 : True := trivial
theorem pre.tw9868076651230356871 : True := trivial
theorem pre.tw9873662184309856542 : True := trivial
theorem pre.tw9889784722808467691 : True := trivial
theorem pre.tw9925072483942813245 : True := trivial
theorem pre.tw9939636323573975454 : True := trivial
theorem pre.tw994174674273429962 : True := trivial
theorem pre.tw9948208398504503780 : True := trivial
theorem pre.tw9953151011854118357 : True := trivial
theorem pre.tw9962514511877580558 : True := trivial
theorem pre.tw9966088280660723746 : True := trivial
theorem pre.tw9983283597578804703 : True := trivial
theorem pre.tw9994197809667161517 : True := trivial
theorem pre.tw9994955048532654222 : True := trivial
theorem pre.tw9997716194387684049 : True := trivial
theorem pre.tw9998622095825563708 : True := trivial
theorem pre.tw999938669381858164 : True := trivial
end Mine
open PySem PySem.W PyProof.Rows
set_option Elab.async true in
set_option maxRecDepth 100000 in
set_option maxHeartbeats 0 in
theorem Mine.pre : PySem.Challenge.rw_pd0032_01.Holds := by
  w_on
  o_law
  o_head (kHook Mine.KFr Mine.KAs (fun _ => by kernel_rfl))
  (case hw => w_witness2)
  k_go0
  all_goals try k_fold
  rename Glob _ _ _ _ _ _ _ _ => GL
  rename News _ _ _ _ => N0
  rename _ = #[] => hgens
  rename Top _ _ _ _ _ _ => T0
  have hs := GL.seer
  refine Mine.law_end Mine.law_ok T0 (by assumption) hs (by assumption) (by assumption) (by assumption) (by assumption) (by rfl) N0 (by assumption) (by assumption) fun h' tk' gr => ?_
  show GoodW _ _ _ _ _ _ _
  refine ⟨.inl ⟨.bool true, .bool true, [], rfl, raisesW_false ?_, .bool true, ?_, unshared_nil⟩, gr, rfl, hgens⟩
  · wrow_none_raised
  · kc_post
set_option maxRecDepth 100000 in
theorem PySem.Challenge.cw_pd0032_01_holds : PySem.Challenge.rw_pd0032_01.Holds := by
  exact Mine.pre
