import PyProof.Rows.All
import Wide.All
import OpenK.AllK
import Wide.FinOn
import Lean
import PySem.Challenge.RW_ar0037_04
set_option Elab.async false
-- KcM
section
set_option Elab.async false
set_option maxRecDepth 100000
namespace Mine
open PySem PySem.W PyProof.Rows
noncomputable def topS (i : Nat) : Stmt := (PySem.Challenge.pw_ar0037_04.main.body[i]?).getD (.Pass ⟨0, 0, 0, 0⟩)
noncomputable def bodyS : Stmt → List Stmt
  | .FunctionDef _ _ b .. => b
  | .ClassDef _ _ _ b .. => b
  | _ => []
noncomputable def argsS : Stmt → Arguments
  | .FunctionDef _ a .. => a
  | _ => ⟨[], [], none, [], [], none, []⟩
noncomputable def scopeS : Stmt → Scope
  | .FunctionDef _ _ _ _ _ _ s .. => s
  | _ => ⟨.module, [], false, false, []⟩
noncomputable def clsS (i j : Nat) : Stmt := ((bodyS (topS i))[j]?).getD (.Pass ⟨0, 0, 0, 0⟩)
noncomputable def docS (b : List Stmt) : Str := (docOf b).getD (Str.ofString "")
noncomputable def b83 : { x : List Stmt // x = bodyS (clsS 6 1) } := ⟨[_], rfl⟩
noncomputable def p83 : { x : Arguments // x = argsS (clsS 6 1) } := ⟨⟨_, _, _, _, _, _, _⟩, rfl⟩
noncomputable def s83 : { x : Scope // x = scopeS (clsS 6 1) } := ⟨⟨_, _, _, _, _⟩, rfl⟩
noncomputable def b90 : { x : List Stmt // x = bodyS (clsS 6 2) } := ⟨[_, _], rfl⟩
noncomputable def p90 : { x : Arguments // x = argsS (clsS 6 2) } := ⟨⟨_, _, _, _, _, _, _⟩, rfl⟩
noncomputable def s90 : { x : Scope // x = scopeS (clsS 6 2) } := ⟨⟨_, _, _, _, _⟩, rfl⟩
noncomputable def b97 : { x : List Stmt // x = bodyS (clsS 6 3) } := ⟨[_], rfl⟩
noncomputable def p97 : { x : Arguments // x = argsS (clsS 6 3) } := ⟨⟨_, _, _, _, _, _, _⟩, rfl⟩
noncomputable def s97 : { x : Scope // x = scopeS (clsS 6 3) } := ⟨⟨_, _, _, _, _⟩, rfl⟩
noncomputable def b104 : { x : List Stmt // x = bodyS (clsS 6 4) } := ⟨[_], rfl⟩
noncomputable def p104 : { x : Arguments // x = argsS (clsS 6 4) } := ⟨⟨_, _, _, _, _, _, _⟩, rfl⟩
noncomputable def s104 : { x : Scope // x = scopeS (clsS 6 4) } := ⟨⟨_, _, _, _, _⟩, rfl⟩
noncomputable def b145 : { x : List Stmt // x = bodyS (clsS 7 1) } := ⟨[_, _], rfl⟩
noncomputable def p145 : { x : Arguments // x = argsS (clsS 7 1) } := ⟨⟨_, _, _, _, _, _, _⟩, rfl⟩
noncomputable def s145 : { x : Scope // x = scopeS (clsS 7 1) } := ⟨⟨_, _, _, _, _⟩, rfl⟩
noncomputable def b379 : { x : List Stmt // x = bodyS (topS 22) } := ⟨[_, _, _, _, _, _, _, _, _], rfl⟩
noncomputable def p379 : { x : Arguments // x = argsS (topS 22) } := ⟨⟨_, _, _, _, _, _, _⟩, rfl⟩
noncomputable def s379 : { x : Scope // x = scopeS (topS 22) } := ⟨⟨_, _, _, _, _⟩, rfl⟩
noncomputable def b386 : { x : List Stmt // x = bodyS (topS 23) } := ⟨[_, _, _], rfl⟩
noncomputable def p386 : { x : Arguments // x = argsS (topS 23) } := ⟨⟨_, _, _, _, _, _, _⟩, rfl⟩
noncomputable def s386 : { x : Scope // x = scopeS (topS 23) } := ⟨⟨_, _, _, _, _⟩, rfl⟩
noncomputable def b462 : { x : List Stmt // x = bodyS (clsS 30 1) } := ⟨[_, _, _, _, _, _, _, _], rfl⟩
noncomputable def p462 : { x : Arguments // x = argsS (clsS 30 1) } := ⟨⟨_, _, _, _, _, _, _⟩, rfl⟩
noncomputable def s462 : { x : Scope // x = scopeS (clsS 30 1) } := ⟨⟨_, _, _, _, _⟩, rfl⟩
noncomputable def b470 : { x : List Stmt // x = bodyS (clsS 30 2) } := ⟨[_, _, _, _, _, _, _, _, _, _, _, _, _, _, _], rfl⟩
noncomputable def p470 : { x : Arguments // x = argsS (clsS 30 2) } := ⟨⟨_, _, _, _, _, _, _⟩, rfl⟩
noncomputable def s470 : { x : Scope // x = scopeS (clsS 30 2) } := ⟨⟨_, _, _, _, _⟩, rfl⟩
noncomputable def b477 : { x : List Stmt // x = bodyS (clsS 30 3) } := ⟨[_, _], rfl⟩
noncomputable def p477 : { x : Arguments // x = argsS (clsS 30 3) } := ⟨⟨_, _, _, _, _, _, _⟩, rfl⟩
noncomputable def s477 : { x : Scope // x = scopeS (clsS 30 3) } := ⟨⟨_, _, _, _, _⟩, rfl⟩
noncomputable def b518 : { x : List Stmt // x = bodyS (clsS 30 9) } := ⟨[_, _, _, _, _], rfl⟩
noncomputable def p518 : { x : Arguments // x = argsS (clsS 30 9) } := ⟨⟨_, _, _, _, _, _, _⟩, rfl⟩
noncomputable def s518 : { x : Scope // x = scopeS (clsS 30 9) } := ⟨⟨_, _, _, _, _⟩, rfl⟩
noncomputable def b533 : { x : List Stmt // x = bodyS (clsS 30 11) } := ⟨[_, _, _, _, _, _, _, _, _], rfl⟩
noncomputable def p533 : { x : Arguments // x = argsS (clsS 30 11) } := ⟨⟨_, _, _, _, _, _, _⟩, rfl⟩
noncomputable def s533 : { x : Scope // x = scopeS (clsS 30 11) } := ⟨⟨_, _, _, _, _⟩, rfl⟩
noncomputable def b697 : { x : List Stmt // x = bodyS (topS 37) } := ⟨[_, _, _], rfl⟩
noncomputable def p697 : { x : Arguments // x = argsS (topS 37) } := ⟨⟨_, _, _, _, _, _, _⟩, rfl⟩
noncomputable def s697 : { x : Scope // x = scopeS (topS 37) } := ⟨⟨_, _, _, _, _⟩, rfl⟩
noncomputable def b702 : { x : List Stmt // x = bodyS (topS 38) } := ⟨[_, _, _, _, _, _, _, _, _], rfl⟩
noncomputable def p702 : { x : Arguments // x = argsS (topS 38) } := ⟨⟨_, _, _, _, _, _, _⟩, rfl⟩
noncomputable def s702 : { x : Scope // x = scopeS (topS 38) } := ⟨⟨_, _, _, _, _⟩, rfl⟩
noncomputable def o2 (P : Params) : Obj := ⟨.none, none, (.dict (List.toArray [⟨PyData.keyHash P (Str.ofString "\x69mport.loaded._operator"), .str (Str.ofString "\x69mport.loaded._operator") 185, .bool true⟩, ⟨PyData.keyHash P (Str.ofString "class._frozen_importlib.BuiltinImporter"), .str (Str.ofString "class._frozen_importlib.BuiltinImporter") 187, .ref 15⟩, ⟨PyData.keyHash P (Str.ofString "watched.\x69mport"), .str (Str.ofString "watched.\x69mport") 208, .ref 19⟩, ⟨PyData.keyHash P (Str.ofString "class._frozen_importlib.ModuleSpec"), .str (Str.ofString "class._frozen_importlib.ModuleSpec") 218, .ref 23⟩, ⟨PyData.keyHash P (Str.ofString "sys.modules.booked-epoch"), .str (Str.ofString "sys.modules.booked-epoch") 247, .int (4) 0⟩, ⟨PyData.keyHash P (Str.ofString "sys.modules.landed._operator"), .str (Str.ofString "sys.modules.landed._operator") 248, .bool true⟩, ⟨PyData.keyHash P (Str.ofString "\x69mport.later-laid._operator"), .str (Str.ofString "\x69mport.later-laid._operator") 312, .bool true⟩, ⟨PyData.keyHash P (Str.ofString "watched.library"), .str (Str.ofString "watched.library") 314, .ref 28⟩, ⟨PyData.keyHash P (Str.ofString "watched.library-objects"), .str (Str.ofString "watched.library-objects") 0, .str (Str.ofString "\x0d\x1f") 0⟩, ⟨PyData.keyHash P (Str.ofString "watched.library-deep._operator"), .str (Str.ofString "watched.library-deep._operator") 315, .str (Str.ofString "\x04\x00\x00\x0c\x04\x00\x00\x0c\x04\x00\x00\x03\x04\x00\x00\x0c\x08\x04dict\x02") 0⟩, ⟨PyData.keyHash P (Str.ofString "\x69mport.loaded._struct"), .str (Str.ofString "\x69mport.loaded._struct") 327, .bool true⟩, ⟨PyData.keyHash P (Str.ofString "class._frozen_importlib_external._LoaderBasics"), .str (Str.ofString "class._frozen_importlib_external._LoaderBasics") 332, .ref 34⟩, ⟨PyData.keyHash P (Str.ofString "class._frozen_importlib_external.FileLoader"), .str (Str.ofString "class._frozen_importlib_external.FileLoader") 348, .ref 39⟩, ⟨PyData.keyHash P (Str.ofString "class._frozen_importlib_external.ExtensionFileLoader"), .str (Str.ofString "class._frozen_importlib_external.ExtensionFileLoader") 369, .ref 44⟩, ⟨PyData.keyHash P (Str.ofString "class.struct.error"), .str (Str.ofString "class.struct.error") 416, .type "struct.error"⟩, ⟨PyData.keyHash P (Str.ofString "\x69mport.later-laid._struct"), .str (Str.ofString "\x69mport.later-laid._struct") 418, .bool true⟩, ⟨PyData.keyHash P (Str.ofString "type.__subclasses__.Exception.0"), .str (Str.ofString "type.__subclasses__.Exception.0") 866, .int (332) 0⟩, ⟨PyData.keyHash P (Str.ofString "type.__subclasses__.Exception.n"), .str (Str.ofString "type.__subclasses__.Exception.n") 867, .int (1) 0⟩]) 18), (List.toArray [])⟩
noncomputable def o3 (P : Params) : Obj := ⟨.type "dict", none, (.dict (List.toArray [⟨PyData.keyHash P (Str.ofString "__name__"), .str (Str.ofString "__name__") 165, .str (Str.ofString "law_ar0037_04") 1425⟩, ⟨PyData.keyHash P (Str.ofString "__doc__"), .str (Str.ofString "__doc__") 166, .none⟩, ⟨PyData.keyHash P (Str.ofString "__package__"), .str (Str.ofString "__package__") 167, .none⟩, ⟨PyData.keyHash P (Str.ofString "__loader__"), .str (Str.ofString "__loader__") 168, .builtin "__main__.__loader__#opaque"⟩, ⟨PyData.keyHash P (Str.ofString "__spec__"), .str (Str.ofString "__spec__") 169, .none⟩, ⟨PyData.keyHash P (Str.ofString "__annotations__"), .str (Str.ofString "__annotations__") 170, .ref 6⟩, ⟨PyData.keyHash P (Str.ofString "__builtins__"), .str (Str.ofString "__builtins__") 171, .ref 4⟩, ⟨PyData.keyHash P (Str.ofString "__file__"), .str (Str.ofString "__file__") 173, .str (Str.ofString "/claim/cut.py") 172⟩, ⟨PyData.keyHash P (Str.ofString "__cached__"), .str (Str.ofString "__cached__") 174, .none⟩, ⟨PyData.keyHash P (Str.ofString "add"), .str (Str.ofString "add") 321, .builtin "_operator.add"⟩, ⟨PyData.keyHash P (Str.ofString "pack"), .str (Str.ofString "pack") 425, .builtin "_struct.pack"⟩, ⟨PyData.keyHash P (Str.ofString "unpack"), .str (Str.ofString "unpack") 428, .builtin "_struct.unpack"⟩, ⟨PyData.keyHash P (Str.ofString "_wall"), .str (Str.ofString "_wall") 441, .ref 60⟩, ⟨PyData.keyHash P (Str.ofString "_pe_name"), .str (Str.ofString "_pe_name") 448, .ref 67⟩, ⟨PyData.keyHash P (Str.ofString "CRC"), .str (Str.ofString "CRC") 467, .ref 68⟩, ⟨PyData.keyHash P (Str.ofString "BytesIO"), .str (Str.ofString "BytesIO") 544, .ref 126⟩, ⟨PyData.keyHash P (Str.ofString "Zlib"), .str (Str.ofString "Zlib") 594, .ref 163⟩, ⟨PyData.keyHash P (Str.ofString "zlib"), .str (Str.ofString "zlib") 595, .ref 169⟩, ⟨PyData.keyHash P (Str.ofString "_tuplegetter"), .str (Str.ofString "_tuplegetter") 654, .ref 208⟩, ⟨PyData.keyHash P (Str.ofString "signature"), .str (Str.ofString "signature") 656, .bytes (List.toArray [137, 80, 78, 71, 13, 10, 26, 10]) 655⟩, ⟨PyData.keyHash P (Str.ofString "adam7"), .str (Str.ofString "adam7") 685, .ref 220⟩, ⟨PyData.keyHash P (Str.ofString "adam7_generate"), .str (Str.ofString "adam7_generate") 698, .ref 227⟩, ⟨PyData.keyHash P (Str.ofString "_Resolution"), .str (Str.ofString "_Resolution") 826, .ref 298⟩, ⟨PyData.keyHash P (Str.ofString "Resolution"), .str (Str.ofString "Resolution") 827, .ref 298⟩, ⟨PyData.keyHash P (Str.ofString "group"), .str (Str.ofString "group") 835, .ref 308⟩, ⟨PyData.keyHash P (Str.ofString "isarray"), .str (Str.ofString "isarray") 842, .ref 315⟩, ⟨PyData.keyHash P (Str.ofString "Error"), .str (Str.ofString "Error") 869, .ref 332⟩, ⟨PyData.keyHash P (Str.ofString "FormatError"), .str (Str.ofString "FormatError") 887, .ref 345⟩, ⟨PyData.keyHash P (Str.ofString "ProtocolError"), .str (Str.ofString "ProtocolError") 905, .ref 357⟩, ⟨PyData.keyHash P (Str.ofString "ChunkError"), .str (Str.ofString "ChunkError") 921, .ref 369⟩, ⟨PyData.keyHash P (Str.ofString "write_chunk"), .str (Str.ofString "write_chunk") 933, .ref 379⟩, ⟨PyData.keyHash P (Str.ofString "write_chunks"), .str (Str.ofString "write_chunks") 943, .ref 386⟩, ⟨PyData.keyHash P (Str.ofString "_pull"), .str (Str.ofString "_pull") 952, .ref 393⟩, ⟨PyData.keyHash P (Str.ofString "chain"), .str (Str.ofString "chain") 1025, .ref 436⟩, ⟨PyData.keyHash P (Str.ofString "warn"), .str (Str.ofString "warn") 1035, .ref 447⟩, ⟨PyData.keyHash P (Str.ofString "Reader"), .str (Str.ofString "Reader") 1347, .ref 651⟩, ⟨PyData.keyHash P (Str.ofString "decompress"), .str (Str.ofString "decompress") 1357, .ref 662⟩, ⟨PyData.keyHash P (Str.ofString "undo_filter_sub"), .str (Str.ofString "undo_filter_sub") 1372, .ref 669⟩, ⟨PyData.keyHash P (Str.ofString "undo_filter_up"), .str (Str.ofString "undo_filter_up") 1386, .ref 676⟩, ⟨PyData.keyHash P (Str.ofString "undo_filter_average"), .str (Str.ofString "undo_filter_average") 1402, .ref 683⟩, ⟨PyData.keyHash P (Str.ofString "undo_filter_paeth"), .str (Str.ofString "undo_filter_paeth") 1424, .ref 690⟩, ⟨PyData.keyHash P (Str.ofString "_law_sum"), .str (Str.ofString "_law_sum") 1437, .ref 697⟩, ⟨PyData.keyHash P (Str.ofString "law"), .str (Str.ofString "law") 1443, .ref 702⟩]) 43), (List.toArray [])⟩
noncomputable def o68 (_ : Params) : Obj := ⟨.type "tuple", none, (.seq (List.toArray [.int (1304293916) 451, .int (1342890616) 452, .int (1993593556) 453, .int (1801765552) 454, .int (996258700) 455, .int (651600872) 456, .int (1020740) 457, .int (498631456) 458, .int (2684711228) 459, .int (3182584152) 460, .int (2607501812) 461, .int (2262581648) 462, .int (3604557996) 463, .int (3412992200) 464, .int (3988197476) 465, .int (4026531840) 466]) 0), (List.toArray [])⟩
noncomputable def o76 (_ : Params) : Obj := ⟨.type "tuple", none, (.seq (List.toArray [.bytes (List.toArray []) 483]) 0), (List.toArray [])⟩
noncomputable def o82 (_ : Params) : Obj := ⟨.type "code", none, (.fields (List.toArray [.str (Str.ofString "__init__") 484, .str (Str.ofString "BytesIO.__init__") 485, .str (Str.ofString "/claim/cut.py") 486, .int (16) 0, .int (2) 0, .int (0) 0, .int (0) 0, .int (3) 0, .ref 77, .bool true, .int (429) 0, .ref 78, .none, .ref 79, .ref 80, .ref 81, .int (489) 0, .int (16) 0, .str (Str.ofString "/claim/cut.py") 490])), (List.toArray [])⟩
noncomputable def o83 (_ : Params) : Obj := ⟨.type "function", none, (.func { name := (Str.ofString "__init__"), qualname := (Str.ofString "BytesIO.__init__"), params := p83.1, body := .stmts b83.1, scope := s83.1, globals := 3, closure := [], defaults := .ref 76, kwdefaults := .none, doc := .none, pyModule := .str (Str.ofString "pypng.standins") 449, annotations := none, code := .ref 82, closureTuple := .none, builtins := 0 }), (List.toArray [])⟩
noncomputable def o89 (_ : Params) : Obj := ⟨.type "code", none, (.fields (List.toArray [.str (Str.ofString "read") 492, .str (Str.ofString "BytesIO.read") 493, .str (Str.ofString "/claim/cut.py") 494, .int (19) 0, .int (2) 0, .int (0) 0, .int (0) 0, .int (3) 0, .ref 84, .bool true, .int (429) 0, .ref 85, .none, .ref 86, .ref 87, .ref 88, .int (498) 0, .int (19) 0, .str (Str.ofString "/claim/cut.py") 499])), (List.toArray [])⟩
noncomputable def o90 (_ : Params) : Obj := ⟨.type "function", none, (.func { name := (Str.ofString "read"), qualname := (Str.ofString "BytesIO.read"), params := p90.1, body := .stmts b90.1, scope := s90.1, globals := 3, closure := [], defaults := .none, kwdefaults := .none, doc := .none, pyModule := .str (Str.ofString "pypng.standins") 449, annotations := none, code := .ref 89, closureTuple := .none, builtins := 0 }), (List.toArray [])⟩
noncomputable def o96 (_ : Params) : Obj := ⟨.type "code", none, (.fields (List.toArray [.str (Str.ofString "write") 501, .str (Str.ofString "BytesIO.write") 502, .str (Str.ofString "/claim/cut.py") 503, .int (23) 0, .int (2) 0, .int (0) 0, .int (0) 0, .int (3) 0, .ref 91, .bool true, .int (429) 0, .ref 92, .none, .ref 93, .ref 94, .ref 95, .int (506) 0, .int (23) 0, .str (Str.ofString "/claim/cut.py") 507])), (List.toArray [])⟩
noncomputable def o97 (_ : Params) : Obj := ⟨.type "function", none, (.func { name := (Str.ofString "write"), qualname := (Str.ofString "BytesIO.write"), params := p97.1, body := .stmts b97.1, scope := s97.1, globals := 3, closure := [], defaults := .none, kwdefaults := .none, doc := .none, pyModule := .str (Str.ofString "pypng.standins") 449, annotations := none, code := .ref 96, closureTuple := .none, builtins := 0 }), (List.toArray [])⟩
noncomputable def o103 (_ : Params) : Obj := ⟨.type "code", none, (.fields (List.toArray [.str (Str.ofString "getvalue") 509, .str (Str.ofString "BytesIO.getvalue") 510, .str (Str.ofString "/claim/cut.py") 511, .int (26) 0, .int (1) 0, .int (0) 0, .int (0) 0, .int (3) 0, .ref 98, .bool true, .int (429) 0, .ref 99, .none, .ref 100, .ref 101, .ref 102, .int (513) 0, .int (26) 0, .str (Str.ofString "/claim/cut.py") 514])), (List.toArray [])⟩
noncomputable def o104 (_ : Params) : Obj := ⟨.type "function", none, (.func { name := (Str.ofString "getvalue"), qualname := (Str.ofString "BytesIO.getvalue"), params := p104.1, body := .stmts b104.1, scope := s104.1, globals := 3, closure := [], defaults := .none, kwdefaults := .none, doc := .none, pyModule := .str (Str.ofString "pypng.standins") 449, annotations := none, code := .ref 103, closureTuple := .none, builtins := 0 }), (List.toArray [])⟩
noncomputable def o125 (P : Params) : Obj := ⟨.type "dict", none, (.dict (List.toArray [⟨PyData.keyHash P (Str.ofString "__module__"), .str (Str.ofString "__module__") 475, .str (Str.ofString "pypng.standins") 449⟩, ⟨PyData.keyHash P (Str.ofString "__firstlineno__"), .str (Str.ofString "__firstlineno__") 479, .int (12) 478⟩, ⟨PyData.keyHash P (Str.ofString "__doc__"), .str (Str.ofString "__doc__") 481, .str (docS (bodyS (topS 6))) 480⟩, ⟨PyData.keyHash P (Str.ofString "__init__"), .str (Str.ofString "__init__") 491, .ref 83⟩, ⟨PyData.keyHash P (Str.ofString "read"), .str (Str.ofString "read") 500, .ref 90⟩, ⟨PyData.keyHash P (Str.ofString "write"), .str (Str.ofString "write") 508, .ref 97⟩, ⟨PyData.keyHash P (Str.ofString "getvalue"), .str (Str.ofString "getvalue") 515, .ref 104⟩, ⟨PyData.keyHash P (Str.ofString "compress"), .str (Str.ofString "compress") 521, .ref 109⟩, ⟨PyData.keyHash P (Str.ofString "decompress"), .str (Str.ofString "decompress") 529, .ref 116⟩, ⟨PyData.keyHash P (Str.ofString "flush"), .str (Str.ofString "flush") 536, .ref 123⟩, ⟨PyData.keyHash P (Str.ofString "__static_attributes__"), .str (Str.ofString "__static_attributes__") 538, .ref 124⟩, ⟨PyData.keyHash P (Str.ofString "__dict__"), .str (Str.ofString "__dict__") 540, .ref 127⟩, ⟨PyData.keyHash P (Str.ofString "__weakref__"), .str (Str.ofString "__weakref__") 542, .ref 128⟩]) 3), (List.toArray [])⟩
noncomputable def o126 (_ : Params) : Obj := ⟨.type "type", none, (.cls { name := (Str.ofString "BytesIO"), bases := [.type "object"], mro := [.ref 126, .type "object"], ns := 125, qualname := (Str.ofString "BytesIO"), hasDict := true, slotNames := [], subclasses := [], abstract := false, collection := none, hasDel := false }), (List.toArray [none, none, some (.str (Str.ofString "BytesIO") 468), some (.str (Str.ofString "BytesIO") 476), some (.builtin "object.__new__"), some (.bool true)])⟩
noncomputable def o138 (_ : Params) : Obj := ⟨.type "tuple", none, (.seq (List.toArray [.int (0) 560]) 0), (List.toArray [])⟩
noncomputable def o144 (_ : Params) : Obj := ⟨.type "code", none, (.fields (List.toArray [.str (Str.ofString "crc32") 561, .str (Str.ofString "Zlib.crc32") 562, .str (Str.ofString "/claim/cut.py") 563, .int (41) 0, .int (3) 0, .int (0) 0, .int (0) 0, .int (3) 0, .ref 139, .bool true, .int (429) 0, .ref 140, .none, .ref 141, .ref 142, .ref 143, .int (568) 0, .int (41) 0, .str (Str.ofString "/claim/cut.py") 569])), (List.toArray [])⟩
noncomputable def o145 (_ : Params) : Obj := ⟨.type "function", none, (.func { name := (Str.ofString "crc32"), qualname := (Str.ofString "Zlib.crc32"), params := p145.1, body := .stmts b145.1, scope := s145.1, globals := 3, closure := [], defaults := .ref 138, kwdefaults := .none, doc := .none, pyModule := .str (Str.ofString "pypng.standins") 449, annotations := none, code := .ref 144, closureTuple := .none, builtins := 0 }), (List.toArray [])⟩
noncomputable def o162 (P : Params) : Obj := ⟨.type "dict", none, (.dict (List.toArray [⟨PyData.keyHash P (Str.ofString "__module__"), .str (Str.ofString "__module__") 552, .str (Str.ofString "pypng.standins") 449⟩, ⟨PyData.keyHash P (Str.ofString "__firstlineno__"), .str (Str.ofString "__firstlineno__") 556, .int (38) 555⟩, ⟨PyData.keyHash P (Str.ofString "__doc__"), .str (Str.ofString "__doc__") 558, .str (docS (bodyS (topS 7))) 557⟩, ⟨PyData.keyHash P (Str.ofString "crc32"), .str (Str.ofString "crc32") 570, .ref 145⟩, ⟨PyData.keyHash P (Str.ofString "compressobj"), .str (Str.ofString "compressobj") 580, .ref 153⟩, ⟨PyData.keyHash P (Str.ofString "decompressobj"), .str (Str.ofString "decompressobj") 587, .ref 160⟩, ⟨PyData.keyHash P (Str.ofString "__static_attributes__"), .str (Str.ofString "__static_attributes__") 588, .ref 161⟩, ⟨PyData.keyHash P (Str.ofString "__dict__"), .str (Str.ofString "__dict__") 590, .ref 164⟩, ⟨PyData.keyHash P (Str.ofString "__weakref__"), .str (Str.ofString "__weakref__") 592, .ref 165⟩]) 3), (List.toArray [])⟩
noncomputable def o163 (_ : Params) : Obj := ⟨.type "type", none, (.cls { name := (Str.ofString "Zlib"), bases := [.type "object"], mro := [.ref 163, .type "object"], ns := 162, qualname := (Str.ofString "Zlib"), hasDict := true, slotNames := [], subclasses := [], abstract := false, collection := none, hasDel := false }), (List.toArray [none, none, some (.str (Str.ofString "Zlib") 545), some (.str (Str.ofString "Zlib") 553), some (.builtin "object.__new__"), some (.bool true)])⟩
noncomputable def o168 (_ : Params) : Obj := ⟨.type "dict", none, (.dict (List.toArray []) 0), (List.toArray [])⟩
noncomputable def o169 (_ : Params) : Obj := ⟨.ref 163, some 168, .plain, (List.toArray [])⟩
noncomputable def o372 (_ : Params) : Obj := ⟨.type "tuple", none, (.seq (List.toArray [.bytes (List.toArray []) 922]) 0), (List.toArray [])⟩
noncomputable def o378 (_ : Params) : Obj := ⟨.type "code", none, (.fields (List.toArray [.str (Str.ofString "write_chunk") 923, .str (Str.ofString "write_chunk") 924, .str (Str.ofString "/claim/cut.py") 925, .int (155) 0, .int (3) 0, .int (0) 0, .int (0) 0, .int (3) 0, .ref 373, .bool true, .int (429) 0, .ref 374, .none, .ref 375, .ref 376, .ref 377, .int (930) 0, .int (155) 0, .str (Str.ofString "/claim/cut.py") 931])), (List.toArray [])⟩
noncomputable def o379 (_ : Params) : Obj := ⟨.type "function", none, (.func { name := (Str.ofString "write_chunk"), qualname := (Str.ofString "write_chunk"), params := p379.1, body := .stmts b379.1, scope := s379.1, globals := 3, closure := [], defaults := .ref 372, kwdefaults := .none, doc := .str (docS b379.1) 932, pyModule := .str (Str.ofString "pypng.png") 596, annotations := none, code := .ref 378, closureTuple := .none, builtins := 0 }), (List.toArray [])⟩
noncomputable def o385 (_ : Params) : Obj := ⟨.type "code", none, (.fields (List.toArray [.str (Str.ofString "write_chunks") 934, .str (Str.ofString "write_chunks") 935, .str (Str.ofString "/claim/cut.py") 936, .int (168) 0, .int (2) 0, .int (0) 0, .int (0) 0, .int (3) 0, .ref 380, .bool true, .int (429) 0, .ref 381, .none, .ref 382, .ref 383, .ref 384, .int (940) 0, .int (168) 0, .str (Str.ofString "/claim/cut.py") 941])), (List.toArray [])⟩
noncomputable def o386 (_ : Params) : Obj := ⟨.type "function", none, (.func { name := (Str.ofString "write_chunks"), qualname := (Str.ofString "write_chunks"), params := p386.1, body := .stmts b386.1, scope := s386.1, globals := 3, closure := [], defaults := .none, kwdefaults := .none, doc := .str (docS b386.1) 942, pyModule := .str (Str.ofString "pypng.png") 596, annotations := none, code := .ref 385, closureTuple := .none, builtins := 0 }), (List.toArray [])⟩
noncomputable def o455 (_ : Params) : Obj := ⟨.type "tuple", none, (.seq (List.toArray [.none, .none, .none]) 0), (List.toArray [])⟩
noncomputable def o461 (_ : Params) : Obj := ⟨.type "code", none, (.fields (List.toArray [.str (Str.ofString "__init__") 1053, .str (Str.ofString "Reader.__init__") 1054, .str (Str.ofString "/claim/cut.py") 1055, .int (237) 0, .int (4) 0, .int (0) 0, .int (0) 0, .int (11) 0, .ref 456, .bool true, .int (429) 0, .ref 457, .none, .ref 458, .ref 459, .ref 460, .int (1062) 0, .int (237) 0, .str (Str.ofString "/claim/cut.py") 1063])), (List.toArray [])⟩
noncomputable def o462 (_ : Params) : Obj := ⟨.type "function", none, (.func { name := (Str.ofString "__init__"), qualname := (Str.ofString "Reader.__init__"), params := p462.1, body := .stmts b462.1, scope := s462.1, globals := 3, closure := [], defaults := .ref 455, kwdefaults := .none, doc := .str (docS b462.1) 1064, pyModule := .str (Str.ofString "pypng.png") 1036, annotations := none, code := .ref 461, closureTuple := .none, builtins := 0 }), (List.toArray [])⟩
noncomputable def o463 (_ : Params) : Obj := ⟨.type "tuple", none, (.seq (List.toArray [.bool false]) 0), (List.toArray [])⟩
noncomputable def o469 (_ : Params) : Obj := ⟨.type "code", none, (.fields (List.toArray [.str (Str.ofString "chunk") 1066, .str (Str.ofString "Reader.chunk") 1067, .str (Str.ofString "/claim/cut.py") 1068, .int (272) 0, .int (2) 0, .int (0) 0, .int (0) 0, .int (3) 0, .ref 464, .bool true, .int (429) 0, .ref 465, .none, .ref 466, .ref 467, .ref 468, .int (1079) 0, .int (272) 0, .str (Str.ofString "/claim/cut.py") 1080])), (List.toArray [])⟩
noncomputable def o470 (_ : Params) : Obj := ⟨.type "function", none, (.func { name := (Str.ofString "chunk"), qualname := (Str.ofString "Reader.chunk"), params := p470.1, body := .stmts b470.1, scope := s470.1, globals := 3, closure := [], defaults := .ref 463, kwdefaults := .none, doc := .str (docS b470.1) 1081, pyModule := .str (Str.ofString "pypng.png") 1036, annotations := none, code := .ref 469, closureTuple := .none, builtins := 0 }), (List.toArray [])⟩
noncomputable def o476 (_ : Params) : Obj := ⟨.type "code", none, (.fields (List.toArray [.str (Str.ofString "chunks") 1083, .str (Str.ofString "Reader.chunks") 1084, .str (Str.ofString "/claim/cut.py") 1085, .int (309) 0, .int (1) 0, .int (0) 0, .int (0) 0, .int (35) 0, .ref 471, .bool true, .int (429) 0, .ref 472, .none, .ref 473, .ref 474, .ref 475, .int (1089) 0, .int (309) 0, .str (Str.ofString "/claim/cut.py") 1090])), (List.toArray [])⟩
noncomputable def o477 (_ : Params) : Obj := ⟨.type "function", none, (.func { name := (Str.ofString "chunks"), qualname := (Str.ofString "Reader.chunks"), params := p477.1, body := .stmts b477.1, scope := s477.1, globals := 3, closure := [], defaults := .none, kwdefaults := .none, doc := .str (docS b477.1) 1091, pyModule := .str (Str.ofString "pypng.png") 1036, annotations := none, code := .ref 476, closureTuple := .none, builtins := 0 }), (List.toArray [])⟩
noncomputable def o517 (_ : Params) : Obj := ⟨.type "code", none, (.fields (List.toArray [.str (Str.ofString "validate_signature") 1166, .str (Str.ofString "Reader.validate_signature") 1167, .str (Str.ofString "/claim/cut.py") 1168, .int (436) 0, .int (1) 0, .int (0) 0, .int (0) 0, .int (3) 0, .ref 512, .bool true, .int (429) 0, .ref 513, .none, .ref 514, .ref 515, .ref 516, .int (1170) 0, .int (436) 0, .str (Str.ofString "/claim/cut.py") 1171])), (List.toArray [])⟩
noncomputable def o518 (_ : Params) : Obj := ⟨.type "function", none, (.func { name := (Str.ofString "validate_signature"), qualname := (Str.ofString "Reader.validate_signature"), params := p518.1, body := .stmts b518.1, scope := s518.1, globals := 3, closure := [], defaults := .none, kwdefaults := .none, doc := .str (docS b518.1) 1172, pyModule := .str (Str.ofString "pypng.png") 1036, annotations := none, code := .ref 517, closureTuple := .none, builtins := 0 }), (List.toArray [])⟩
noncomputable def o532 (_ : Params) : Obj := ⟨.type "code", none, (.fields (List.toArray [.str (Str.ofString "_chunk_len_type") 1183, .str (Str.ofString "Reader._chunk_len_type") 1184, .str (Str.ofString "/claim/cut.py") 1185, .int (476) 0, .int (1) 0, .int (0) 0, .int (0) 0, .int (3) 0, .ref 527, .bool true, .int (429) 0, .ref 528, .none, .ref 529, .ref 530, .ref 531, .int (1191) 0, .int (476) 0, .str (Str.ofString "/claim/cut.py") 1192])), (List.toArray [])⟩
noncomputable def o533 (_ : Params) : Obj := ⟨.type "function", none, (.func { name := (Str.ofString "_chunk_len_type"), qualname := (Str.ofString "Reader._chunk_len_type"), params := p533.1, body := .stmts b533.1, scope := s533.1, globals := 3, closure := [], defaults := .none, kwdefaults := .none, doc := .str (docS b533.1) 1193, pyModule := .str (Str.ofString "pypng.png") 1036, annotations := none, code := .ref 532, closureTuple := .none, builtins := 0 }), (List.toArray [])⟩
noncomputable def o650 (P : Params) : Obj := ⟨.type "dict", none, (.dict (List.toArray [⟨PyData.keyHash P (Str.ofString "__module__"), .str (Str.ofString "__module__") 1045, .str (Str.ofString "pypng.png") 1036⟩, ⟨PyData.keyHash P (Str.ofString "__firstlineno__"), .str (Str.ofString "__firstlineno__") 1049, .int (232) 1048⟩, ⟨PyData.keyHash P (Str.ofString "__doc__"), .str (Str.ofString "__doc__") 1051, .str (docS (bodyS (topS 30))) 1050⟩, ⟨PyData.keyHash P (Str.ofString "__init__"), .str (Str.ofString "__init__") 1065, .ref 462⟩, ⟨PyData.keyHash P (Str.ofString "chunk"), .str (Str.ofString "chunk") 1082, .ref 470⟩, ⟨PyData.keyHash P (Str.ofString "chunks"), .str (Str.ofString "chunks") 1092, .ref 477⟩, ⟨PyData.keyHash P (Str.ofString "undo_filter"), .str (Str.ofString "undo_filter") 1106, .ref 484⟩, ⟨PyData.keyHash P (Str.ofString "_deinterlace"), .str (Str.ofString "_deinterlace") 1133, .ref 491⟩, ⟨PyData.keyHash P (Str.ofString "_iter_bytes_to_values"), .str (Str.ofString "_iter_bytes_to_values") 1143, .ref 498⟩, ⟨PyData.keyHash P (Str.ofString "_bytes_to_values"), .str (Str.ofString "_bytes_to_values") 1150, .ref 504⟩, ⟨PyData.keyHash P (Str.ofString "_iter_straight_packed"), .str (Str.ofString "_iter_straight_packed") 1165, .ref 511⟩, ⟨PyData.keyHash P (Str.ofString "validate_signature"), .str (Str.ofString "validate_signature") 1173, .ref 518⟩, ⟨PyData.keyHash P (Str.ofString "preamble"), .str (Str.ofString "preamble") 1182, .ref 526⟩, ⟨PyData.keyHash P (Str.ofString "_chunk_len_type"), .str (Str.ofString "_chunk_len_type") 1194, .ref 533⟩, ⟨PyData.keyHash P (Str.ofString "process_chunk"), .str (Str.ofString "process_chunk") 1207, .ref 541⟩, ⟨PyData.keyHash P (Str.ofString "_process_IHDR"), .str (Str.ofString "_process_IHDR") 1215, .ref 548⟩, ⟨PyData.keyHash P (Str.ofString "_process_PLTE"), .str (Str.ofString "_process_PLTE") 1223, .ref 555⟩, ⟨PyData.keyHash P (Str.ofString "_process_bKGD"), .str (Str.ofString "_process_bKGD") 1231, .ref 562⟩, ⟨PyData.keyHash P (Str.ofString "_process_tRNS"), .str (Str.ofString "_process_tRNS") 1239, .ref 569⟩, ⟨PyData.keyHash P (Str.ofString "_process_sBIT"), .str (Str.ofString "_process_sBIT") 1247, .ref 576⟩, ⟨PyData.keyHash P (Str.ofString "_process_pHYs"), .str (Str.ofString "_process_pHYs") 1255, .ref 583⟩, ⟨PyData.keyHash P (Str.ofString "read"), .str (Str.ofString "read") 1273, .ref 591⟩, ⟨PyData.keyHash P (Str.ofString "read_flat"), .str (Str.ofString "read_flat") 1280, .ref 598⟩, ⟨PyData.keyHash P (Str.ofString "palette"), .str (Str.ofString "palette") 1292, .ref 606⟩, ⟨PyData.keyHash P (Str.ofString "asDirect"), .str (Str.ofString "asDirect") 1299, .ref 613⟩, ⟨PyData.keyHash P (Str.ofString "_as_rescale"), .str (Str.ofString "_as_rescale") 1308, .ref 620⟩, ⟨PyData.keyHash P (Str.ofString "asRGB8"), .str (Str.ofString "asRGB8") 1315, .ref 627⟩, ⟨PyData.keyHash P (Str.ofString "asRGBA8"), .str (Str.ofString "asRGBA8") 1322, .ref 634⟩, ⟨PyData.keyHash P (Str.ofString "asRGB"), .str (Str.ofString "asRGB") 1329, .ref 641⟩, ⟨PyData.keyHash P (Str.ofString "asRGBA"), .str (Str.ofString "asRGBA") 1336, .ref 648⟩, ⟨PyData.keyHash P (Str.ofString "__static_attributes__"), .str (Str.ofString "__static_attributes__") 1341, .ref 649⟩, ⟨PyData.keyHash P (Str.ofString "__dict__"), .str (Str.ofString "__dict__") 1343, .ref 652⟩, ⟨PyData.keyHash P (Str.ofString "__weakref__"), .str (Str.ofString "__weakref__") 1345, .ref 653⟩]) 3), (List.toArray [])⟩
noncomputable def o651 (_ : Params) : Obj := ⟨.type "type", none, (.cls { name := (Str.ofString "Reader"), bases := [.type "object"], mro := [.ref 651, .type "object"], ns := 650, qualname := (Str.ofString "Reader"), hasDict := true, slotNames := [], subclasses := [], abstract := false, collection := none, hasDel := false }), (List.toArray [none, none, some (.str (Str.ofString "Reader") 1038), some (.str (Str.ofString "Reader") 1046), some (.builtin "object.__new__"), some (.bool true)])⟩
noncomputable def o696 (_ : Params) : Obj := ⟨.type "code", none, (.fields (List.toArray [.str (Str.ofString "_law_sum") 1427, .str (Str.ofString "_law_sum") 1428, .str (Str.ofString "/claim/cut.py") 1429, .int (690) 0, .int (1) 0, .int (0) 0, .int (0) 0, .int (3) 0, .ref 691, .bool true, .int (429) 0, .ref 692, .none, .ref 693, .ref 694, .ref 695, .int (1435) 0, .int (690) 0, .str (Str.ofString "/claim/cut.py") 1436])), (List.toArray [])⟩
noncomputable def o697 (_ : Params) : Obj := ⟨.type "function", none, (.func { name := (Str.ofString "_law_sum"), qualname := (Str.ofString "_law_sum"), params := p697.1, body := .stmts b697.1, scope := s697.1, globals := 3, closure := [], defaults := .none, kwdefaults := .none, doc := .none, pyModule := .str (Str.ofString "law_ar0037_04") 1425, annotations := none, code := .ref 696, closureTuple := .none, builtins := 0 }), (List.toArray [])⟩
noncomputable def o701 (_ : Params) : Obj := ⟨.type "code", none, (.fields (List.toArray [.str (Str.ofString "law") 1438, .str (Str.ofString "law") 1439, .str (Str.ofString "/claim/cut.py") 1440, .int (699) 0, .int (1) 0, .int (0) 0, .int (0) 0, .int (3) 0, .ref 698, .bool true, .int (429) 0, .ref 699, .none, .none, .none, .ref 700, .int (1441) 0, .int (699) 0, .str (Str.ofString "/claim/cut.py") 1442])), (List.toArray [])⟩
noncomputable def o702 (_ : Params) : Obj := ⟨.type "function", none, (.func { name := (Str.ofString "law"), qualname := (Str.ofString "law"), params := p702.1, body := .stmts b702.1, scope := s702.1, globals := 3, closure := [], defaults := .none, kwdefaults := .none, doc := .none, pyModule := .str (Str.ofString "law_ar0037_04") 1425, annotations := none, code := .ref 701, closureTuple := .none, builtins := 0 }), (List.toArray [])⟩
noncomputable def Kc : Params → Frag := fun P => ((nat_lit 2), o2 P) :: ((nat_lit 3), o3 P) :: ((nat_lit 68), o68 P) :: ((nat_lit 76), o76 P) :: ((nat_lit 82), o82 P) :: ((nat_lit 83), o83 P) :: ((nat_lit 89), o89 P) :: ((nat_lit 90), o90 P) :: ((nat_lit 96), o96 P) :: ((nat_lit 97), o97 P) :: ((nat_lit 103), o103 P) :: ((nat_lit 104), o104 P) :: ((nat_lit 125), o125 P) :: ((nat_lit 126), o126 P) :: ((nat_lit 138), o138 P) :: ((nat_lit 144), o144 P) :: ((nat_lit 145), o145 P) :: ((nat_lit 162), o162 P) :: ((nat_lit 163), o163 P) :: ((nat_lit 168), o168 P) :: ((nat_lit 169), o169 P) :: ((nat_lit 372), o372 P) :: ((nat_lit 378), o378 P) :: ((nat_lit 379), o379 P) :: ((nat_lit 385), o385 P) :: ((nat_lit 386), o386 P) :: ((nat_lit 455), o455 P) :: ((nat_lit 461), o461 P) :: ((nat_lit 462), o462 P) :: ((nat_lit 463), o463 P) :: ((nat_lit 469), o469 P) :: ((nat_lit 470), o470 P) :: ((nat_lit 476), o476 P) :: ((nat_lit 477), o477 P) :: ((nat_lit 517), o517 P) :: ((nat_lit 518), o518 P) :: ((nat_lit 532), o532 P) :: ((nat_lit 533), o533 P) :: ((nat_lit 650), o650 P) :: ((nat_lit 651), o651 P) :: ((nat_lit 696), o696 P) :: ((nat_lit 697), o697 P) :: ((nat_lit 701), o701 P) :: ((nat_lit 702), o702 P) :: []
noncomputable def Ka : List Addr := (nat_lit 2) :: (nat_lit 3) :: (nat_lit 68) :: (nat_lit 76) :: (nat_lit 82) :: (nat_lit 83) :: (nat_lit 89) :: (nat_lit 90) :: (nat_lit 96) :: (nat_lit 97) :: (nat_lit 103) :: (nat_lit 104) :: (nat_lit 125) :: (nat_lit 126) :: (nat_lit 138) :: (nat_lit 144) :: (nat_lit 145) :: (nat_lit 162) :: (nat_lit 163) :: (nat_lit 168) :: (nat_lit 169) :: (nat_lit 372) :: (nat_lit 378) :: (nat_lit 379) :: (nat_lit 385) :: (nat_lit 386) :: (nat_lit 455) :: (nat_lit 461) :: (nat_lit 462) :: (nat_lit 463) :: (nat_lit 469) :: (nat_lit 470) :: (nat_lit 476) :: (nat_lit 477) :: (nat_lit 517) :: (nat_lit 518) :: (nat_lit 532) :: (nat_lit 533) :: (nat_lit 650) :: (nat_lit 651) :: (nat_lit 696) :: (nat_lit 697) :: (nat_lit 701) :: (nat_lit 702) :: []
end Mine
end
-- HE
section
open PySem PySem.W PyProof.Rows PySem.Calls PySem.Spec
set_option Elab.async false
set_option maxRecDepth 100000
set_option maxHeartbeats 4000000
namespace Mine
/-- the opening over a tree of objects, to its end -/
noncomputable def impT (f : SharedT → Thread → Option (SharedT × Thread)) (at_ : Thread → Option (List Value)) : Nat → SharedT → Thread → Option SharedT
  | 0, _, _ => none
  | n + 1, s, t => match at_ t with
    | some [] => some s
    | some (_ :: _) => none
    | none => match f s t with
      | some (s', t') => impT f at_ n s' t'
      | none => none
theorem impT_of {tb : String → Option Builtin} {p : Program} {w : World} : ∀ {n : Nat} {s s' : SharedT} {t : Thread}, impT (stepT (denote tb) p w) Thread.atExitBegin n s t = some s' → importEnds tb p w n s.abs t = some s'.abs
  | 0, _, _, _, h => by cases h
  | n + 1, s, s', t, h => by
    unfold impT at h
    unfold importEnds
    cases he : t.atExitBegin with
    | some l =>
      rw [he] at h
      cases l with
      | nil => cases h; rfl
      | cons _ _ => cases h
    | none =>
      rw [he] at h
      cases hs : stepT (denote tb) p w s t with
      | none => rw [hs] at h; cases h
      | some r =>
        obtain ⟨s₂, t₂⟩ := r
        rw [hs] at h
        rw [stepT_spec hs]
        exact impT_of h
/-- a list of objects as a tree -/
noncomputable def plant : List Obj → BT → Nat → Option BT
  | [], t, _ => some t
  | o :: r, t, n => match ((t.ins n o).get n).isSome with
    | true => plant r (t.ins n o) (n + 1)
    | false => none
theorem plant_of {life : Life} : ∀ {l : List Obj} {t t' : BT} {n : Nat}, plant l t n = some t' → absHeap t' (n + l.length) life = ⟨(absHeap t n life).objs ++ l.toArray, life⟩
  | [], t, t', n, h => by cases h; simp [absHeap]
  | o :: r, t, t', n, h => by
    unfold plant at h
    cases hs : ((t.ins n o).get n).isSome with
    | false => rw [hs] at h; cases h
    | true =>
      rw [hs] at h
      have e := plant_of (life := life) h
      rw [absHeap_ins hs] at e
      rw [List.length_cons, show n + (r.length + 1) = n + 1 + r.length by omega, e]
      simp [Heap.push]
end Mine
end
-- KsM
section
open PySem PySem.W PyProof.Rows
set_option Elab.async false
set_option maxRecDepth 100000
namespace Mine.St
open Mine
noncomputable def S (s : String) : Str := Str.ofString s
noncomputable def K (P : Params) (x : Str) (t : Tok) (v : Value) : DictEntry := ⟨PyData.keyHash P x, .str x t, v⟩
noncomputable def q0 (P : Params) : Obj := ⟨.type "dict", none, (.dict #[K P (S "__name__") 1 (.str (S "builtins") 160), K P (S "__doc__") 2 (.builtin "builtins.__doc__:str#opaque"), K P (S "__package__") 3 (.builtin "builtins.__package__:str#opaque"), K P (S "__loader__") 4 (.builtin "builtins.__loader__:shared#opaque"), K P (S "__spec__") 5 (.builtin "builtins.__spec__#opaque"), K P (S "__build_class__") 6 (.builtin "__build_class__"), K P (S "__import__") 7 (.builtin "__import__"), K P (S "abs") 8 (.builtin "abs"), K P (S "all") 9 (.builtin "all"), K P (S "any") 10 (.builtin "any"), K P (S "ascii") 11 (.builtin "ascii"), K P (S "bin") 12 (.builtin "bin"), K P (S "breakpoint") 13 (.builtin "breakpoint"), K P (S "callable") 14 (.builtin "callable"), K P (S "chr") 15 (.builtin "chr"), K P (S "compile") 16 (.builtin "compile"), K P (S "delattr") 17 (.builtin "delattr"), K P (S "dir") 18 (.builtin "dir"), K P (S "divmod") 19 (.builtin "divmod"), K P (S "eval") 20 (.builtin "eval"), K P (S "exec") 21 (.builtin "exec"), K P (S "format") 22 (.builtin "format"), K P (S "getattr") 23 (.builtin "getattr"), K P (S "globals") 24 (.builtin "globals"), K P (S "hasattr") 25 (.builtin "hasattr"), K P (S "hash") 26 (.builtin "hash"), K P (S "hex") 27 (.builtin "hex"), K P (S "id") 28 (.builtin "id"), K P (S "input") 29 (.builtin "input"), K P (S "isinstance") 30 (.builtin "isinstance"), K P (S "issubclass") 31 (.builtin "issubclass"), K P (S "iter") 32 (.builtin "iter"), K P (S "aiter") 33 (.builtin "aiter"), K P (S "len") 34 (.builtin "len"), K P (S "locals") 35 (.builtin "locals"), K P (S "max") 36 (.builtin "max"), K P (S "min") 37 (.builtin "min"), K P (S "next") 38 (.builtin "next"), K P (S "anext") 39 (.builtin "anext"), K P (S "oct") 40 (.builtin "oct"), K P (S "ord") 41 (.builtin "ord"), K P (S "pow") 42 (.builtin "pow"), K P (S "print") 43 (.builtin "print"), K P (S "repr") 44 (.builtin "repr"), K P (S "round") 45 (.builtin "round"), K P (S "setattr") 46 (.builtin "setattr"), K P (S "sorted") 47 (.builtin "sorted"), K P (S "sum") 48 (.builtin "sum"), K P (S "vars") 49 (.builtin "vars"), K P (S "None") 50 (.none), K P (S "Ellipsis") 51 (.ellipsis), K P (S "NotImplemented") 52 (.notImplemented), K P (S "False") 53 (.bool false), K P (S "True") 54 (.bool true), K P (S "bool") 55 (.type "bool"), K P (S "memoryview") 56 (.type "memoryview"), K P (S "bytearray") 57 (.type "bytearray"), K P (S "bytes") 58 (.type "bytes"), K P (S "classmethod") 59 (.type "classmethod"), K P (S "complex") 60 (.type "complex"), K P (S "dict") 61 (.type "dict"), K P (S "enumerate") 62 (.type "enumerate"), K P (S "filter") 63 (.type "filter"), K P (S "float") 64 (.type "float"), K P (S "frozenset") 65 (.type "frozenset"), K P (S "property") 66 (.type "property"), K P (S "int") 67 (.type "int"), K P (S "list") 68 (.type "list"), K P (S "map") 69 (.type "map"), K P (S "object") 70 (.type "object"), K P (S "range") 71 (.type "range"), K P (S "reversed") 72 (.type "reversed"), K P (S "set") 73 (.type "set"), K P (S "slice") 74 (.type "slice"), K P (S "staticmethod") 75 (.type "staticmethod"), K P (S "str") 76 (.type "str"), K P (S "super") 77 (.type "super"), K P (S "tuple") 78 (.type "tuple"), K P (S "type") 79 (.type "type"), K P (S "zip") 80 (.type "zip"), K P (S "__debug__") 81 (.bool true), K P (S "BaseException") 82 (.type "BaseException"), K P (S "BaseExceptionGroup") 83 (.type "BaseExceptionGroup"), K P (S "Exception") 84 (.type "Exception"), K P (S "GeneratorExit") 85 (.type "GeneratorExit"), K P (S "KeyboardInterrupt") 86 (.type "KeyboardInterrupt"), K P (S "SystemExit") 87 (.type "SystemExit"), K P (S "ArithmeticError") 88 (.type "ArithmeticError"), K P (S "AssertionError") 89 (.type "AssertionError"), K P (S "AttributeError") 90 (.type "AttributeError"), K P (S "BufferError") 91 (.type "BufferError"), K P (S "EOFError") 92 (.type "EOFError"), K P (S "ImportError") 93 (.type "ImportError"), K P (S "LookupError") 94 (.type "LookupError"), K P (S "MemoryError") 95 (.type "MemoryError"), K P (S "NameError") 96 (.type "NameError"), K P (S "OSError") 97 (.type "OSError"), K P (S "ReferenceError") 98 (.type "ReferenceError"), K P (S "RuntimeError") 99 (.type "RuntimeError"), K P (S "StopAsyncIteration") 100 (.type "StopAsyncIteration"), K P (S "StopIteration") 101 (.type "StopIteration"), K P (S "SyntaxError") 102 (.type "SyntaxError"), K P (S "SystemError") 103 (.type "SystemError"), K P (S "TypeError") 104 (.type "TypeError"), K P (S "ValueError") 105 (.type "ValueError"), K P (S "Warning") 106 (.type "Warning"), K P (S "FloatingPointError") 107 (.type "FloatingPointError"), K P (S "OverflowError") 108 (.type "OverflowError"), K P (S "ZeroDivisionError") 109 (.type "ZeroDivisionError"), K P (S "BytesWarning") 110 (.type "BytesWarning"), K P (S "DeprecationWarning") 111 (.type "DeprecationWarning"), K P (S "EncodingWarning") 112 (.type "EncodingWarning"), K P (S "FutureWarning") 113 (.type "FutureWarning"), K P (S "ImportWarning") 114 (.type "ImportWarning"), K P (S "PendingDeprecationWarning") 115 (.type "PendingDeprecationWarning"), K P (S "ResourceWarning") 116 (.type "ResourceWarning"), K P (S "RuntimeWarning") 117 (.type "RuntimeWarning"), K P (S "SyntaxWarning") 118 (.type "SyntaxWarning"), K P (S "UnicodeWarning") 119 (.type "UnicodeWarning"), K P (S "UserWarning") 120 (.type "UserWarning"), K P (S "BlockingIOError") 121 (.type "BlockingIOError"), K P (S "ChildProcessError") 122 (.type "ChildProcessError"), K P (S "ConnectionError") 123 (.type "ConnectionError"), K P (S "FileExistsError") 124 (.type "FileExistsError"), K P (S "FileNotFoundError") 125 (.type "FileNotFoundError"), K P (S "InterruptedError") 126 (.type "InterruptedError"), K P (S "IsADirectoryError") 127 (.type "IsADirectoryError"), K P (S "NotADirectoryError") 128 (.type "NotADirectoryError"), K P (S "PermissionError") 129 (.type "PermissionError"), K P (S "ProcessLookupError") 130 (.type "ProcessLookupError"), K P (S "TimeoutError") 131 (.type "TimeoutError"), K P (S "IndentationError") 132 (.type "IndentationError"), K P (S "_IncompleteInputError") 133 (.type "_IncompleteInputError"), K P (S "IndexError") 134 (.type "IndexError"), K P (S "KeyError") 135 (.type "KeyError"), K P (S "ModuleNotFoundError") 136 (.type "ModuleNotFoundError"), K P (S "NotImplementedError") 137 (.type "NotImplementedError"), K P (S "PythonFinalizationError") 138 (.type "PythonFinalizationError"), K P (S "RecursionError") 139 (.type "RecursionError"), K P (S "UnboundLocalError") 140 (.type "UnboundLocalError"), K P (S "UnicodeError") 141 (.type "UnicodeError"), K P (S "BrokenPipeError") 142 (.type "BrokenPipeError"), K P (S "ConnectionAbortedError") 143 (.type "ConnectionAbortedError"), K P (S "ConnectionRefusedError") 144 (.type "ConnectionRefusedError"), K P (S "ConnectionResetError") 145 (.type "ConnectionResetError"), K P (S "TabError") 146 (.type "TabError"), K P (S "UnicodeDecodeError") 147 (.type "UnicodeDecodeError"), K P (S "UnicodeEncodeError") 148 (.type "UnicodeEncodeError"), K P (S "UnicodeTranslateError") 149 (.type "UnicodeTranslateError"), K P (S "ExceptionGroup") 150 (.type "ExceptionGroup"), K P (S "EnvironmentError") 151 (.type "OSError"), K P (S "IOError") 152 (.type "OSError"), K P (S "open") 153 (.builtin "open"), K P (S "quit") 154 (.builtin "builtins.quit#opaque"), K P (S "exit") 155 (.builtin "builtins.exit#opaque"), K P (S "copyright") 156 (.builtin "builtins.copyright#opaque"), K P (S "credits") 157 (.builtin "builtins.credits#opaque"), K P (S "license") 158 (.builtin "builtins.license#opaque"), K P (S "help") 159 (.builtin "builtins.help#opaque")] 159), #[]⟩
noncomputable def q1 (P : Params) : Obj := ⟨.type "dict", none, (.dict #[K P (S "builtins") 162 (.ref 4), K P (S "__main__") 163 (.ref 5), K P (S "_operator") 246 (.ref 13), K P (S "_struct") 398 (.ref 31)] 4), #[]⟩
noncomputable def q2 (P : Params) : Obj := ⟨.none, none, (.dict #[K P (S "\x69mport.loaded._operator") 185 (.bool true), K P (S "class._frozen_importlib.BuiltinImporter") 187 (.ref 15), K P (S "watched.\x69mport") 208 (.ref 19), K P (S "class._frozen_importlib.ModuleSpec") 218 (.ref 23), K P (S "sys.modules.booked-epoch") 247 (.int (4) 0), K P (S "sys.modules.landed._operator") 248 (.bool true), K P (S "\x69mport.later-laid._operator") 312 (.bool true), K P (S "watched.library") 314 (.ref 28), K P (S "watched.library-objects") 0 (.str (S "\x0d\x1f") 0), K P (S "watched.library-deep._operator") 315 (.str (S "\x04\x00\x00\x0c\x04\x00\x00\x0c\x04\x00\x00\x03\x04\x00\x00\x0c\x08\x04dict\x02") 0), K P (S "\x69mport.loaded._struct") 327 (.bool true), K P (S "class._frozen_importlib_external._LoaderBasics") 332 (.ref 34), K P (S "class._frozen_importlib_external.FileLoader") 348 (.ref 39), K P (S "class._frozen_importlib_external.ExtensionFileLoader") 369 (.ref 44), K P (S "class.struct.error") 416 (.type "struct.error"), K P (S "\x69mport.later-laid._struct") 418 (.bool true)] 16), #[]⟩
noncomputable def q3 (P : Params) : Obj := ⟨.type "dict", none, (.dict #[K P (S "__name__") 165 (.str (S "__main__") 164), K P (S "__doc__") 166 (.none), K P (S "__package__") 167 (.none), K P (S "__loader__") 168 (.builtin "__main__.__loader__#opaque"), K P (S "__spec__") 169 (.none), K P (S "__annotations__") 170 (.ref 6), K P (S "__builtins__") 171 (.ref 4), K P (S "__file__") 173 (.str (S "/claim/cut.py") 172), K P (S "__cached__") 174 (.none), K P (S "add") 321 (.builtin "_operator.add"), K P (S "pack") 425 (.builtin "_struct.pack"), K P (S "unpack") 428 (.builtin "_struct.unpack")] 12), #[]⟩
noncomputable def q4 (_ : Params) : Obj := ⟨.type "module", some 0, .plain, #[]⟩
noncomputable def q5 (_ : Params) : Obj := ⟨.type "module", some 3, .plain, #[]⟩
noncomputable def q6 (_ : Params) : Obj := ⟨.type "dict", none, (.dict #[] 0), #[]⟩
noncomputable def q7 (_ : Params) : Obj := ⟨.type "tuple", none, (.seq #[] 0), #[]⟩
noncomputable def q8 (_ : Params) : Obj := ⟨.none, none, (.fields #[]), #[]⟩
noncomputable def q9 (_ : Params) : Obj := ⟨.type "code", none, (.fields #[.str (S "<module>") 176, .str (S "<module>") 177, .str (S "/claim/cut.py") 178, .int (1) 0, .int (0) 0, .int (0) 0, .int (0) 0, .int (0) 0, .ref 7, .bool false, .int (175) 0, .ref 8, .none, .none, .none, .none, .int (179) 0, .int (1) 0, .str (S "/claim/cut.py") 180]), #[]⟩
noncomputable def q10 (_ : Params) : Obj := ⟨.type "frame", none, .plain, #[some (.ref 9), some (.ref 3), some (.ref 3), none, some (.str (S "__main__") 164), none, some (.ref 0)]⟩
noncomputable def q11 (_ : Params) : Obj := ⟨.type "tuple", none, (.seq #[.str (S "add") 182] 0), #[]⟩
noncomputable def q12 (P : Params) : Obj := ⟨.type "dict", none, (.dict #[K P (S "__name__") 250 (.str (S "_operator") 249), K P (S "__doc__") 251 (.builtin "off-the-table:_operator.__doc__:shared#opaque"), K P (S "__package__") 253 (.str (S "") 252), K P (S "__loader__") 254 (.builtin "off-the-table:_operator.__loader__:shared#opaque"), K P (S "__spec__") 255 (.builtin "off-the-table:_operator.__spec__:shared#opaque"), K P (S "truth") 256 (.builtin "_operator.truth"), K P (S "contains") 257 (.builtin "_operator.contains"), K P (S "indexOf") 258 (.builtin "_operator.indexOf"), K P (S "countOf") 259 (.builtin "_operator.countOf"), K P (S "is_") 260 (.builtin "_operator.is_"), K P (S "is_not") 261 (.builtin "_operator.is_not"), K P (S "index") 262 (.builtin "_operator.index"), K P (S "add") 263 (.builtin "_operator.add"), K P (S "sub") 264 (.builtin "_operator.sub"), K P (S "mul") 265 (.builtin "_operator.mul"), K P (S "matmul") 266 (.builtin "_operator.matmul"), K P (S "floordiv") 267 (.builtin "_operator.floordiv"), K P (S "truediv") 268 (.builtin "_operator.truediv"), K P (S "mod") 269 (.builtin "_operator.mod"), K P (S "neg") 270 (.builtin "_operator.neg"), K P (S "pos") 271 (.builtin "_operator.pos"), K P (S "abs") 272 (.builtin "_operator.abs"), K P (S "inv") 273 (.builtin "_operator.inv"), K P (S "invert") 274 (.builtin "_operator.invert"), K P (S "lshift") 275 (.builtin "_operator.lshift"), K P (S "rshift") 276 (.builtin "_operator.rshift"), K P (S "not_") 277 (.builtin "_operator.not_"), K P (S "and_") 278 (.builtin "_operator.and_"), K P (S "xor") 279 (.builtin "_operator.xor"), K P (S "or_") 280 (.builtin "_operator.or_"), K P (S "iadd") 281 (.builtin "_operator.iadd"), K P (S "isub") 282 (.builtin "_operator.isub"), K P (S "imul") 283 (.builtin "_operator.imul"), K P (S "imatmul") 284 (.builtin "_operator.imatmul"), K P (S "ifloordiv") 285 (.builtin "_operator.ifloordiv"), K P (S "itruediv") 286 (.builtin "_operator.itruediv"), K P (S "imod") 287 (.builtin "_operator.imod"), K P (S "ilshift") 288 (.builtin "_operator.ilshift"), K P (S "irshift") 289 (.builtin "_operator.irshift"), K P (S "iand") 290 (.builtin "_operator.iand"), K P (S "ixor") 291 (.builtin "_operator.ixor"), K P (S "ior") 292 (.builtin "_operator.ior"), K P (S "concat") 293 (.builtin "_operator.concat"), K P (S "iconcat") 294 (.builtin "_operator.iconcat"), K P (S "getitem") 295 (.builtin "_operator.getitem"), K P (S "setitem") 296 (.builtin "_operator.setitem"), K P (S "delitem") 297 (.builtin "_operator.delitem"), K P (S "pow") 298 (.builtin "_operator.pow"), K P (S "ipow") 299 (.builtin "_operator.ipow"), K P (S "eq") 300 (.builtin "_operator.eq"), K P (S "ne") 301 (.builtin "_operator.ne"), K P (S "lt") 302 (.builtin "_operator.lt"), K P (S "le") 303 (.builtin "_operator.le"), K P (S "gt") 304 (.builtin "_operator.gt"), K P (S "ge") 305 (.builtin "_operator.ge"), K P (S "_compare_digest") 306 (.builtin "off-the-table:_operator._compare_digest:shared#opaque"), K P (S "length_hint") 307 (.builtin "_operator.length_hint"), K P (S "call") 308 (.builtin "_operator.call"), K P (S "attrgetter") 309 (.builtin "off-the-table:_operator.attrgetter:shared#opaque"), K P (S "itemgetter") 310 (.type "operator.itemgetter"), K P (S "methodcaller") 311 (.builtin "off-the-table:_operator.methodcaller:shared#opaque")] 61), #[]⟩
noncomputable def q13 (_ : Params) : Obj := ⟨.type "module", some 12, .plain, #[]⟩
noncomputable def q14 (P : Params) : Obj := ⟨.type "dict", none, (.dict #[K P (S "__module__") 191 (.str (S "_frozen_importlib") 188), K P (S "__firstlineno__") 192 (.int (971) 189), K P (S "__doc__") 193 (.builtin "_frozen_importlib.BuiltinImporter.__doc__:str#opaque"), K P (S "_ORIGIN") 194 (.str (S "built-in") 190), K P (S "find_spec") 195 (.builtin "_frozen_importlib.BuiltinImporter.find_spec#opaque"), K P (S "create_module") 196 (.builtin "_frozen_importlib.BuiltinImporter.create_module#opaque"), K P (S "exec_module") 197 (.builtin "_frozen_importlib.BuiltinImporter.exec_module#opaque"), K P (S "get_code") 198 (.builtin "_frozen_importlib.BuiltinImporter.get_code#opaque"), K P (S "get_source") 199 (.builtin "_frozen_importlib.BuiltinImporter.get_source#opaque"), K P (S "is_package") 200 (.builtin "_frozen_importlib.BuiltinImporter.is_package#opaque"), K P (S "load_module") 201 (.builtin "_frozen_importlib.BuiltinImporter.load_module#opaque"), K P (S "__static_attributes__") 202 (.ref 16), K P (S "__dict__") 204 (.ref 17), K P (S "__weakref__") 206 (.ref 18)] 14), #[]⟩
noncomputable def q15 (_ : Params) : Obj := ⟨.type "type", none, (.cls { name := (S "BuiltinImporter"), bases := [.type "object"], mro := [.ref 15, .type "object"], ns := 14, qualname := (S "BuiltinImporter"), hasDict := true, slotNames := [], subclasses := [], abstract := false, collection := none, hasDel := false }), #[]⟩
noncomputable def q16 (_ : Params) : Obj := ⟨.type "tuple", none, (.seq #[] 0), #[]⟩
noncomputable def q17 (_ : Params) : Obj := ⟨.type "getset_descriptor", none, (.fields #[.str (S "__dict__") 203, .ref 15, .builtin "function.__dict__", .builtin "function.__dict__#set"]), #[]⟩
noncomputable def q18 (_ : Params) : Obj := ⟨.type "getset_descriptor", none, (.fields #[.str (S "__weakref__") 205, .ref 15, .builtin "ExceptionGroup.__weakref__", .none]), #[]⟩
noncomputable def q19 (_ : Params) : Obj := ⟨.none, none, (.seq #[.int (14) 0, .str ⟨#[6, 191, 10, 95, 95, 109, 111, 100, 117, 108, 101, 95, 95, 6, 188, 17, 95, 102, 114, 111, 122, 101, 110, 95, 105, 109, 112, 111, 114, 116, 108, 105, 98, 6, 192, 15, 95, 95, 102, 105, 114, 115, 116, 108, 105, 110, 101, 110, 111, 95, 95, 4, 189, 0, 971, 6, 193, 7, 95, 95, 100, 111, 99, 95, 95, 9, 52, 95, 102, 114, 111, 122, 101, 110, 95, 105, 109, 112, 111, 114, 116, 108, 105, 98, 46, 66, 117, 105, 108, 116, 105, 110, 73, 109, 112, 111, 114, 116, 101, 114, 46, 95, 95, 100, 111, 99, 95, 95, 58, 115, 116, 114, 35, 111, 112, 97, 113, 117, 101, 6, 194, 7, 95, 79, 82, 73, 71, 73, 78, 6, 190, 8, 98, 117, 105, 108, 116, 45, 105, 110, 6, 195, 9, 102, 105, 110, 100, 95, 115, 112, 101, 99, 9, 50, 95, 102, 114, 111, 122, 101, 110, 95, 105, 109, 112, 111, 114, 116, 108, 105, 98, 46, 66, 117, 105, 108, 116, 105, 110, 73, 109, 112, 111, 114, 116, 101, 114, 46, 102, 105, 110, 100, 95, 115, 112, 101, 99, 35, 111, 112, 97, 113, 117, 101, 6, 196, 13, 99, 114, 101, 97, 116, 101, 95, 109, 111, 100, 117, 108, 101, 9, 54, 95, 102, 114, 111, 122, 101, 110, 95, 105, 109, 112, 111, 114, 116, 108, 105, 98, 46, 66, 117, 105, 108, 116, 105, 110, 73, 109, 112, 111, 114, 116, 101, 114, 46, 99, 114, 101, 97, 116, 101, 95, 109, 111, 100, 117, 108, 101, 35, 111, 112, 97, 113, 117, 101, 6, 197, 11, 101, 120, 101, 99, 95, 109, 111, 100, 117, 108, 101, 9, 52, 95, 102, 114, 111, 122, 101, 110, 95, 105, 109, 112, 111, 114, 116, 108, 105, 98, 46, 66, 117, 105, 108, 116, 105, 110, 73, 109, 112, 111, 114, 116, 101, 114, 46, 101, 120, 101, 99, 95, 109, 111, 100, 117, 108, 101, 35, 111, 112, 97, 113, 117, 101, 6, 198, 8, 103, 101, 116, 95, 99, 111, 100, 101, 9, 49, 95, 102, 114, 111, 122, 101, 110, 95, 105, 109, 112, 111, 114, 116, 108, 105, 98, 46, 66, 117, 105, 108, 116, 105, 110, 73, 109, 112, 111, 114, 116, 101, 114, 46, 103, 101, 116, 95, 99, 111, 100, 101, 35, 111, 112, 97, 113, 117, 101, 6, 199, 10, 103, 101, 116, 95, 115, 111, 117, 114, 99, 101, 9, 51, 95, 102, 114, 111, 122, 101, 110, 95, 105, 109, 112, 111, 114, 116, 108, 105, 98, 46, 66, 117, 105, 108, 116, 105, 110, 73, 109, 112, 111, 114, 116, 101, 114, 46, 103, 101, 116, 95, 115, 111, 117, 114, 99, 101, 35, 111, 112, 97, 113, 117, 101, 6, 200, 10, 105, 115, 95, 112, 97, 99, 107, 97, 103, 101, 9, 51, 95, 102, 114, 111, 122, 101, 110, 95, 105, 109, 112, 111, 114, 116, 108, 105, 98, 46, 66, 117, 105, 108, 116, 105, 110, 73, 109, 112, 111, 114, 116, 101, 114, 46, 105, 115, 95, 112, 97, 99, 107, 97, 103, 101, 35, 111, 112, 97, 113, 117, 101, 6, 201, 11, 108, 111, 97, 100, 95, 109, 111, 100, 117, 108, 101, 9, 52, 95, 102, 114, 111, 122, 101, 110, 95, 105, 109, 112, 111, 114, 116, 108, 105, 98, 46, 66, 117, 105, 108, 116, 105, 110, 73, 109, 112, 111, 114, 116, 101, 114, 46, 108, 111, 97, 100, 95, 109, 111, 100, 117, 108, 101, 35, 111, 112, 97, 113, 117, 101, 6, 202, 21, 95, 95, 115, 116, 97, 116, 105, 99, 95, 97, 116, 116, 114, 105, 98, 117, 116, 101, 115, 95, 95, 4, 0, 0, 16, 6, 204, 8, 95, 95, 100, 105, 99, 116, 95, 95, 4, 0, 0, 17, 6, 206, 11, 95, 95, 119, 101, 97, 107, 114, 101, 102, 95, 95, 4, 0, 0, 18]⟩ 0, .bool true, .bool true, .str (S "") 207, .int (22) 0, .str ⟨#[6, 229, 10, 95, 95, 109, 111, 100, 117, 108, 101, 95, 95, 6, 219, 17, 95, 102, 114, 111, 122, 101, 110, 95, 105, 109, 112, 111, 114, 116, 108, 105, 98, 6, 230, 15, 95, 95, 102, 105, 114, 115, 116, 108, 105, 110, 101, 110, 111, 95, 95, 4, 220, 0, 562, 6, 231, 7, 95, 95, 100, 111, 99, 95, 95, 9, 47, 95, 102, 114, 111, 122, 101, 110, 95, 105, 109, 112, 111, 114, 116, 108, 105, 98, 46, 77, 111, 100, 117, 108, 101, 83, 112, 101, 99, 46, 95, 95, 100, 111, 99, 95, 95, 58, 115, 116, 114, 35, 111, 112, 97, 113, 117, 101, 6, 232, 8, 95, 95, 105, 110, 105, 116, 95, 95, 9, 44, 95, 102, 114, 111, 122, 101, 110, 95, 105, 109, 112, 111, 114, 116, 108, 105, 98, 46, 77, 111, 100, 117, 108, 101, 83, 112, 101, 99, 46, 95, 95, 105, 110, 105, 116, 95, 95, 35, 111, 112, 97, 113, 117, 101, 6, 233, 8, 95, 95, 114, 101, 112, 114, 95, 95, 9, 44, 95, 102, 114, 111, 122, 101, 110, 95, 105, 109, 112, 111, 114, 116, 108, 105, 98, 46, 77, 111, 100, 117, 108, 101, 83, 112, 101, 99, 46, 95, 95, 114, 101, 112, 114, 95, 95, 35, 111, 112, 97, 113, 117, 101, 6, 234, 6, 95, 95, 101, 113, 95, 95, 9, 42, 95, 102, 114, 111, 122, 101, 110, 95, 105, 109, 112, 111, 114, 116, 108, 105, 98, 46, 77, 111, 100, 117, 108, 101, 83, 112, 101, 99, 46, 95, 95, 101, 113, 95, 95, 35, 111, 112, 97, 113, 117, 101, 6, 235, 6, 99, 97, 99, 104, 101, 100, 9, 42, 95, 102, 114, 111, 122, 101, 110, 95, 105, 109, 112, 111, 114, 116, 108, 105, 98, 46, 77, 111, 100, 117, 108, 101, 83, 112, 101, 99, 46, 99, 97, 99, 104, 101, 100, 35, 111, 112, 97, 113, 117, 101, 6, 236, 6, 112, 97, 114, 101, 110, 116, 9, 42, 95, 102, 114, 111, 122, 101, 110, 95, 105, 109, 112, 111, 114, 116, 108, 105, 98, 46, 77, 111, 100, 117, 108, 101, 83, 112, 101, 99, 46, 112, 97, 114, 101, 110, 116, 35, 111, 112, 97, 113, 117, 101, 6, 237, 12, 104, 97, 115, 95, 108, 111, 99, 97, 116, 105, 111, 110, 9, 48, 95, 102, 114, 111, 122, 101, 110, 95, 105, 109, 112, 111, 114, 116, 108, 105, 98, 46, 77, 111, 100, 117, 108, 101, 83, 112, 101, 99, 46, 104, 97, 115, 95, 108, 111, 99, 97, 116, 105, 111, 110, 35, 111, 112, 97, 113, 117, 101, 6, 238, 21, 95, 95, 115, 116, 97, 116, 105, 99, 95, 97, 116, 116, 114, 105, 98, 117, 116, 101, 115, 95, 95, 4, 0, 0, 24, 6, 240, 8, 95, 95, 100, 105, 99, 116, 95, 95, 4, 0, 0, 25, 6, 242, 11, 95, 95, 119, 101, 97, 107, 114, 101, 102, 95, 95, 4, 0, 0, 26, 6, 243, 8, 95, 95, 104, 97, 115, 104, 95, 95, 0]⟩ 0, .bool true, .bool true, .str (S "") 244, .int (33) 0, .str ⟨#[6, 335, 10, 95, 95, 109, 111, 100, 117, 108, 101, 95, 95, 6, 333, 26, 95, 102, 114, 111, 122, 101, 110, 95, 105, 109, 112, 111, 114, 116, 108, 105, 98, 95, 101, 120, 116, 101, 114, 110, 97, 108, 6, 336, 15, 95, 95, 102, 105, 114, 115, 116, 108, 105, 110, 101, 110, 111, 95, 95, 4, 334, 0, 1001, 6, 337, 7, 95, 95, 100, 111, 99, 95, 95, 9, 59, 95, 102, 114, 111, 122, 101, 110, 95, 105, 109, 112, 111, 114, 116, 108, 105, 98, 95, 101, 120, 116, 101, 114, 110, 97, 108, 46, 95, 76, 111, 97, 100, 101, 114, 66, 97, 115, 105, 99, 115, 46, 95, 95, 100, 111, 99, 95, 95, 58, 115, 116, 114, 35, 111, 112, 97, 113, 117, 101, 6, 338, 10, 105, 115, 95, 112, 97, 99, 107, 97, 103, 101, 9, 58, 95, 102, 114, 111, 122, 101, 110, 95, 105, 109, 112, 111, 114, 116, 108, 105, 98, 95, 101, 120, 116, 101, 114, 110, 97, 108, 46, 95, 76, 111, 97, 100, 101, 114, 66, 97, 115, 105, 99, 115, 46, 105, 115, 95, 112, 97, 99, 107, 97, 103, 101, 35, 111, 112, 97, 113, 117, 101, 6, 339, 13, 99, 114, 101, 97, 116, 101, 95, 109, 111, 100, 117, 108, 101, 9, 61, 95, 102, 114, 111, 122, 101, 110, 95, 105, 109, 112, 111, 114, 116, 108, 105, 98, 95, 101, 120, 116, 101, 114, 110, 97, 108, 46, 95, 76, 111, 97, 100, 101, 114, 66, 97, 115, 105, 99, 115, 46, 99, 114, 101, 97, 116, 101, 95, 109, 111, 100, 117, 108, 101, 35, 111, 112, 97, 113, 117, 101, 6, 340, 11, 101, 120, 101, 99, 95, 109, 111, 100, 117, 108, 101, 9, 59, 95, 102, 114, 111, 122, 101, 110, 95, 105, 109, 112, 111, 114, 116, 108, 105, 98, 95, 101, 120, 116, 101, 114, 110, 97, 108, 46, 95, 76, 111, 97, 100, 101, 114, 66, 97, 115, 105, 99, 115, 46, 101, 120, 101, 99, 95, 109, 111, 100, 117, 108, 101, 35, 111, 112, 97, 113, 117, 101, 6, 341, 11, 108, 111, 97, 100, 95, 109, 111, 100, 117, 108, 101, 9, 59, 95, 102, 114, 111, 122, 101, 110, 95, 105, 109, 112, 111, 114, 116, 108, 105, 98, 95, 101, 120, 116, 101, 114, 110, 97, 108, 46, 95, 76, 111, 97, 100, 101, 114, 66, 97, 115, 105, 99, 115, 46, 108, 111, 97, 100, 95, 109, 111, 100, 117, 108, 101, 35, 111, 112, 97, 113, 117, 101, 6, 342, 21, 95, 95, 115, 116, 97, 116, 105, 99, 95, 97, 116, 116, 114, 105, 98, 117, 116, 101, 115, 95, 95, 4, 0, 0, 35, 6, 344, 8, 95, 95, 100, 105, 99, 116, 95, 95, 4, 0, 0, 36, 6, 346, 11, 95, 95, 119, 101, 97, 107, 114, 101, 102, 95, 95, 4, 0, 0, 37]⟩ 0, .bool true, .bool true, .str (S "") 347, .int (38) 0, .str ⟨#[6, 353, 10, 95, 95, 109, 111, 100, 117, 108, 101, 95, 95, 6, 349, 26, 95, 102, 114, 111, 122, 101, 110, 95, 105, 109, 112, 111, 114, 116, 108, 105, 98, 95, 101, 120, 116, 101, 114, 110, 97, 108, 6, 354, 15, 95, 95, 102, 105, 114, 115, 116, 108, 105, 110, 101, 110, 111, 95, 95, 4, 350, 0, 1176, 6, 355, 7, 95, 95, 100, 111, 99, 95, 95, 9, 56, 95, 102, 114, 111, 122, 101, 110, 95, 105, 109, 112, 111, 114, 116, 108, 105, 98, 95, 101, 120, 116, 101, 114, 110, 97, 108, 46, 70, 105, 108, 101, 76, 111, 97, 100, 101, 114, 46, 95, 95, 100, 111, 99, 95, 95, 58, 115, 116, 114, 35, 111, 112, 97, 113, 117, 101, 6, 356, 8, 95, 95, 105, 110, 105, 116, 95, 95, 9, 53, 95, 102, 114, 111, 122, 101, 110, 95, 105, 109, 112, 111, 114, 116, 108, 105, 98, 95, 101, 120, 116, 101, 114, 110, 97, 108, 46, 70, 105, 108, 101, 76, 111, 97, 100, 101, 114, 46, 95, 95, 105, 110, 105, 116, 95, 95, 35, 111, 112, 97, 113, 117, 101, 6, 357, 6, 95, 95, 101, 113, 95, 95, 9, 51, 95, 102, 114, 111, 122, 101, 110, 95, 105, 109, 112, 111, 114, 116, 108, 105, 98, 95, 101, 120, 116, 101, 114, 110, 97, 108, 46, 70, 105, 108, 101, 76, 111, 97, 100, 101, 114, 46, 95, 95, 101, 113, 95, 95, 35, 111, 112, 97, 113, 117, 101, 6, 358, 8, 95, 95, 104, 97, 115, 104, 95, 95, 9, 53, 95, 102, 114, 111, 122, 101, 110, 95, 105, 109, 112, 111, 114, 116, 108, 105, 98, 95, 101, 120, 116, 101, 114, 110, 97, 108, 46, 70, 105, 108, 101, 76, 111, 97, 100, 101, 114, 46, 95, 95, 104, 97, 115, 104, 95, 95, 35, 111, 112, 97, 113, 117, 101, 6, 359, 11, 108, 111, 97, 100, 95, 109, 111, 100, 117, 108, 101, 9, 56, 95, 102, 114, 111, 122, 101, 110, 95, 105, 109, 112, 111, 114, 116, 108, 105, 98, 95, 101, 120, 116, 101, 114, 110, 97, 108, 46, 70, 105, 108, 101, 76, 111, 97, 100, 101, 114, 46, 108, 111, 97, 100, 95, 109, 111, 100, 117, 108, 101, 35, 111, 112, 97, 113, 117, 101, 6, 360, 12, 103, 101, 116, 95, 102, 105, 108, 101, 110, 97, 109, 101, 9, 57, 95, 102, 114, 111, 122, 101, 110, 95, 105, 109, 112, 111, 114, 116, 108, 105, 98, 95, 101, 120, 116, 101, 114, 110, 97, 108, 46, 70, 105, 108, 101, 76, 111, 97, 100, 101, 114, 46, 103, 101, 116, 95, 102, 105, 108, 101, 110, 97, 109, 101, 35, 111, 112, 97, 113, 117, 101, 6, 361, 8, 103, 101, 116, 95, 100, 97, 116, 97, 9, 53, 95, 102, 114, 111, 122, 101, 110, 95, 105, 109, 112, 111, 114, 116, 108, 105, 98, 95, 101, 120, 116, 101, 114, 110, 97, 108, 46, 70, 105, 108, 101, 76, 111, 97, 100, 101, 114, 46, 103, 101, 116, 95, 100, 97, 116, 97, 35, 111, 112, 97, 113, 117, 101, 6, 362, 19, 103, 101, 116, 95, 114, 101, 115, 111, 117, 114, 99, 101, 95, 114, 101, 97, 100, 101, 114, 9, 64, 95, 102, 114, 111, 122, 101, 110, 95, 105, 109, 112, 111, 114, 116, 108, 105, 98, 95, 101, 120, 116, 101, 114, 110, 97, 108, 46, 70, 105, 108, 101, 76, 111, 97, 100, 101, 114, 46, 103, 101, 116, 95, 114, 101, 115, 111, 117, 114, 99, 101, 95, 114, 101, 97, 100, 101, 114, 35, 111, 112, 97, 113, 117, 101, 6, 363, 21, 95, 95, 115, 116, 97, 116, 105, 99, 95, 97, 116, 116, 114, 105, 98, 117, 116, 101, 115, 95, 95, 4, 0, 0, 40, 6, 365, 8, 95, 95, 100, 105, 99, 116, 95, 95, 4, 0, 0, 41, 6, 367, 11, 95, 95, 119, 101, 97, 107, 114, 101, 102, 95, 95, 4, 0, 0, 42]⟩ 0, .bool true, .bool true, .str (S "") 368, .int (43) 0, .str ⟨#[6, 374, 10, 95, 95, 109, 111, 100, 117, 108, 101, 95, 95, 6, 370, 26, 95, 102, 114, 111, 122, 101, 110, 95, 105, 109, 112, 111, 114, 116, 108, 105, 98, 95, 101, 120, 116, 101, 114, 110, 97, 108, 6, 375, 15, 95, 95, 102, 105, 114, 115, 116, 108, 105, 110, 101, 110, 111, 95, 95, 4, 371, 0, 1296, 6, 376, 7, 95, 95, 100, 111, 99, 95, 95, 9, 65, 95, 102, 114, 111, 122, 101, 110, 95, 105, 109, 112, 111, 114, 116, 108, 105, 98, 95, 101, 120, 116, 101, 114, 110, 97, 108, 46, 69, 120, 116, 101, 110, 115, 105, 111, 110, 70, 105, 108, 101, 76, 111, 97, 100, 101, 114, 46, 95, 95, 100, 111, 99, 95, 95, 58, 115, 116, 114, 35, 111, 112, 97, 113, 117, 101, 6, 377, 8, 95, 95, 105, 110, 105, 116, 95, 95, 9, 62, 95, 102, 114, 111, 122, 101, 110, 95, 105, 109, 112, 111, 114, 116, 108, 105, 98, 95, 101, 120, 116, 101, 114, 110, 97, 108, 46, 69, 120, 116, 101, 110, 115, 105, 111, 110, 70, 105, 108, 101, 76, 111, 97, 100, 101, 114, 46, 95, 95, 105, 110, 105, 116, 95, 95, 35, 111, 112, 97, 113, 117, 101, 6, 378, 6, 95, 95, 101, 113, 95, 95, 9, 60, 95, 102, 114, 111, 122, 101, 110, 95, 105, 109, 112, 111, 114, 116, 108, 105, 98, 95, 101, 120, 116, 101, 114, 110, 97, 108, 46, 69, 120, 116, 101, 110, 115, 105, 111, 110, 70, 105, 108, 101, 76, 111, 97, 100, 101, 114, 46, 95, 95, 101, 113, 95, 95, 35, 111, 112, 97, 113, 117, 101, 6, 379, 8, 95, 95, 104, 97, 115, 104, 95, 95, 9, 62, 95, 102, 114, 111, 122, 101, 110, 95, 105, 109, 112, 111, 114, 116, 108, 105, 98, 95, 101, 120, 116, 101, 114, 110, 97, 108, 46, 69, 120, 116, 101, 110, 115, 105, 111, 110, 70, 105, 108, 101, 76, 111, 97, 100, 101, 114, 46, 95, 95, 104, 97, 115, 104, 95, 95, 35, 111, 112, 97, 113, 117, 101, 6, 380, 13, 99, 114, 101, 97, 116, 101, 95, 109, 111, 100, 117, 108, 101, 9, 67, 95, 102, 114, 111, 122, 101, 110, 95, 105, 109, 112, 111, 114, 116, 108, 105, 98, 95, 101, 120, 116, 101, 114, 110, 97, 108, 46, 69, 120, 116, 101, 110, 115, 105, 111, 110, 70, 105, 108, 101, 76, 111, 97, 100, 101, 114, 46, 99, 114, 101, 97, 116, 101, 95, 109, 111, 100, 117, 108, 101, 35, 111, 112, 97, 113, 117, 101, 6, 381, 11, 101, 120, 101, 99, 95, 109, 111, 100, 117, 108, 101, 9, 65, 95, 102, 114, 111, 122, 101, 110, 95, 105, 109, 112, 111, 114, 116, 108, 105, 98, 95, 101, 120, 116, 101, 114, 110, 97, 108, 46, 69, 120, 116, 101, 110, 115, 105, 111, 110, 70, 105, 108, 101, 76, 111, 97, 100, 101, 114, 46, 101, 120, 101, 99, 95, 109, 111, 100, 117, 108, 101, 35, 111, 112, 97, 113, 117, 101, 6, 382, 10, 105, 115, 95, 112, 97, 99, 107, 97, 103, 101, 9, 64, 95, 102, 114, 111, 122, 101, 110, 95, 105, 109, 112, 111, 114, 116, 108, 105, 98, 95, 101, 120, 116, 101, 114, 110, 97, 108, 46, 69, 120, 116, 101, 110, 115, 105, 111, 110, 70, 105, 108, 101, 76, 111, 97, 100, 101, 114, 46, 105, 115, 95, 112, 97, 99, 107, 97, 103, 101, 35, 111, 112, 97, 113, 117, 101, 6, 383, 8, 103, 101, 116, 95, 99, 111, 100, 101, 9, 62, 95, 102, 114, 111, 122, 101, 110, 95, 105, 109, 112, 111, 114, 116, 108, 105, 98, 95, 101, 120, 116, 101, 114, 110, 97, 108, 46, 69, 120, 116, 101, 110, 115, 105, 111, 110, 70, 105, 108, 101, 76, 111, 97, 100, 101, 114, 46, 103, 101, 116, 95, 99, 111, 100, 101, 35, 111, 112, 97, 113, 117, 101, 6, 384, 10, 103, 101, 116, 95, 115, 111, 117, 114, 99, 101, 9, 64, 95, 102, 114, 111, 122, 101, 110, 95, 105, 109, 112, 111, 114, 116, 108, 105, 98, 95, 101, 120, 116, 101, 114, 110, 97, 108, 46, 69, 120, 116, 101, 110, 115, 105, 111, 110, 70, 105, 108, 101, 76, 111, 97, 100, 101, 114, 46, 103, 101, 116, 95, 115, 111, 117, 114, 99, 101, 35, 111, 112, 97, 113, 117, 101, 6, 385, 12, 103, 101, 116, 95, 102, 105, 108, 101, 110, 97, 109, 101, 9, 66, 95, 102, 114, 111, 122, 101, 110, 95, 105, 109, 112, 111, 114, 116, 108, 105, 98, 95, 101, 120, 116, 101, 114, 110, 97, 108, 46, 69, 120, 116, 101, 110, 115, 105, 111, 110, 70, 105, 108, 101, 76, 111, 97, 100, 101, 114, 46, 103, 101, 116, 95, 102, 105, 108, 101, 110, 97, 109, 101, 35, 111, 112, 97, 113, 117, 101, 6, 386, 21, 95, 95, 115, 116, 97, 116, 105, 99, 95, 97, 116, 116, 114, 105, 98, 117, 116, 101, 115, 95, 95, 4, 0, 0, 45]⟩ 0, .bool true, .bool true, .str (S "") 387] 4), #[]⟩
noncomputable def q20 (_ : Params) : Obj := ⟨.type "list", none, (.seq #[] 0), #[]⟩
noncomputable def q21 (P : Params) : Obj := ⟨.type "dict", none, (.dict #[K P (S "name") 210 (.str (S "_operator") 209), K P (S "loader") 211 (.ref 15), K P (S "origin") 212 (.str (S "built-in") 186), K P (S "loader_state") 213 (.none), K P (S "submodule_search_locations") 214 (.none), K P (S "_uninitialized_submodules") 215 (.ref 20), K P (S "_set_fileattr") 216 (.bool false), K P (S "_cached") 217 (.none), K P (S "_initializing") 245 (.bool false)] 9), #[]⟩
noncomputable def q22 (P : Params) : Obj := ⟨.type "dict", none, (.dict #[K P (S "__module__") 229 (.str (S "_frozen_importlib") 219), K P (S "__firstlineno__") 230 (.int (562) 220), K P (S "__doc__") 231 (.builtin "_frozen_importlib.ModuleSpec.__doc__:str#opaque"), K P (S "__init__") 232 (.builtin "_frozen_importlib.ModuleSpec.__init__#opaque"), K P (S "__repr__") 233 (.builtin "_frozen_importlib.ModuleSpec.__repr__#opaque"), K P (S "__eq__") 234 (.builtin "_frozen_importlib.ModuleSpec.__eq__#opaque"), K P (S "cached") 235 (.builtin "_frozen_importlib.ModuleSpec.cached#opaque"), K P (S "parent") 236 (.builtin "_frozen_importlib.ModuleSpec.parent#opaque"), K P (S "has_location") 237 (.builtin "_frozen_importlib.ModuleSpec.has_location#opaque"), K P (S "__static_attributes__") 238 (.ref 24), K P (S "__dict__") 240 (.ref 25), K P (S "__weakref__") 242 (.ref 26), K P (S "__hash__") 243 (.none)] 13), #[]⟩
noncomputable def q23 (_ : Params) : Obj := ⟨.type "type", none, (.cls { name := (S "ModuleSpec"), bases := [.type "object"], mro := [.ref 23, .type "object"], ns := 22, qualname := (S "ModuleSpec"), hasDict := true, slotNames := [], subclasses := [], abstract := false, collection := none, hasDel := false }), #[]⟩
noncomputable def q24 (_ : Params) : Obj := ⟨.type "tuple", none, (.seq #[.str (S "_cached") 221, .str (S "_set_fileattr") 222, .str (S "_uninitialized_submodules") 223, .str (S "loader") 224, .str (S "loader_state") 225, .str (S "name") 226, .str (S "origin") 227, .str (S "submodule_search_locations") 228] 0), #[]⟩
noncomputable def q25 (_ : Params) : Obj := ⟨.type "getset_descriptor", none, (.fields #[.str (S "__dict__") 239, .ref 23, .builtin "function.__dict__", .builtin "function.__dict__#set"]), #[]⟩
noncomputable def q26 (_ : Params) : Obj := ⟨.type "getset_descriptor", none, (.fields #[.str (S "__weakref__") 241, .ref 23, .builtin "ExceptionGroup.__weakref__", .none]), #[]⟩
noncomputable def q27 (_ : Params) : Obj := ⟨.ref 23, some 21, .plain, #[]⟩
noncomputable def q28 (_ : Params) : Obj := ⟨.none, none, (.seq #[.int (12) 0, .str ⟨#[6, 250, 8, 95, 95, 110, 97, 109, 101, 95, 95, 6, 249, 9, 95, 111, 112, 101, 114, 97, 116, 111, 114, 6, 251, 7, 95, 95, 100, 111, 99, 95, 95, 9, 28, 95, 111, 112, 101, 114, 97, 116, 111, 114, 46, 95, 95, 100, 111, 99, 95, 95, 58, 115, 116, 114, 35, 111, 112, 97, 113, 117, 101, 6, 253, 11, 95, 95, 112, 97, 99, 107, 97, 103, 101, 95, 95, 6, 252, 0, 6, 254, 10, 95, 95, 108, 111, 97, 100, 101, 114, 95, 95, 4, 0, 0, 15, 6, 255, 8, 95, 95, 115, 112, 101, 99, 95, 95, 4, 0, 0, 27, 6, 256, 5, 116, 114, 117, 116, 104, 9, 15, 95, 111, 112, 101, 114, 97, 116, 111, 114, 46, 116, 114, 117, 116, 104, 6, 257, 8, 99, 111, 110, 116, 97, 105, 110, 115, 9, 18, 95, 111, 112, 101, 114, 97, 116, 111, 114, 46, 99, 111, 110, 116, 97, 105, 110, 115, 6, 258, 7, 105, 110, 100, 101, 120, 79, 102, 9, 17, 95, 111, 112, 101, 114, 97, 116, 111, 114, 46, 105, 110, 100, 101, 120, 79, 102, 6, 259, 7, 99, 111, 117, 110, 116, 79, 102, 9, 17, 95, 111, 112, 101, 114, 97, 116, 111, 114, 46, 99, 111, 117, 110, 116, 79, 102, 6, 260, 3, 105, 115, 95, 9, 13, 95, 111, 112, 101, 114, 97, 116, 111, 114, 46, 105, 115, 95, 6, 261, 6, 105, 115, 95, 110, 111, 116, 9, 16, 95, 111, 112, 101, 114, 97, 116, 111, 114, 46, 105, 115, 95, 110, 111, 116, 6, 262, 5, 105, 110, 100, 101, 120, 9, 15, 95, 111, 112, 101, 114, 97, 116, 111, 114, 46, 105, 110, 100, 101, 120, 6, 263, 3, 97, 100, 100, 9, 13, 95, 111, 112, 101, 114, 97, 116, 111, 114, 46, 97, 100, 100, 6, 264, 3, 115, 117, 98, 9, 13, 95, 111, 112, 101, 114, 97, 116, 111, 114, 46, 115, 117, 98, 6, 265, 3, 109, 117, 108, 9, 13, 95, 111, 112, 101, 114, 97, 116, 111, 114, 46, 109, 117, 108, 6, 266, 6, 109, 97, 116, 109, 117, 108, 9, 16, 95, 111, 112, 101, 114, 97, 116, 111, 114, 46, 109, 97, 116, 109, 117, 108, 6, 267, 8, 102, 108, 111, 111, 114, 100, 105, 118, 9, 18, 95, 111, 112, 101, 114, 97, 116, 111, 114, 46, 102, 108, 111, 111, 114, 100, 105, 118, 6, 268, 7, 116, 114, 117, 101, 100, 105, 118, 9, 17, 95, 111, 112, 101, 114, 97, 116, 111, 114, 46, 116, 114, 117, 101, 100, 105, 118, 6, 269, 3, 109, 111, 100, 9, 13, 95, 111, 112, 101, 114, 97, 116, 111, 114, 46, 109, 111, 100, 6, 270, 3, 110, 101, 103, 9, 13, 95, 111, 112, 101, 114, 97, 116, 111, 114, 46, 110, 101, 103, 6, 271, 3, 112, 111, 115, 9, 13, 95, 111, 112, 101, 114, 97, 116, 111, 114, 46, 112, 111, 115, 6, 272, 3, 97, 98, 115, 9, 13, 95, 111, 112, 101, 114, 97, 116, 111, 114, 46, 97, 98, 115, 6, 273, 3, 105, 110, 118, 9, 13, 95, 111, 112, 101, 114, 97, 116, 111, 114, 46, 105, 110, 118, 6, 274, 6, 105, 110, 118, 101, 114, 116, 9, 16, 95, 111, 112, 101, 114, 97, 116, 111, 114, 46, 105, 110, 118, 101, 114, 116, 6, 275, 6, 108, 115, 104, 105, 102, 116, 9, 16, 95, 111, 112, 101, 114, 97, 116, 111, 114, 46, 108, 115, 104, 105, 102, 116, 6, 276, 6, 114, 115, 104, 105, 102, 116, 9, 16, 95, 111, 112, 101, 114, 97, 116, 111, 114, 46, 114, 115, 104, 105, 102, 116, 6, 277, 4, 110, 111, 116, 95, 9, 14, 95, 111, 112, 101, 114, 97, 116, 111, 114, 46, 110, 111, 116, 95, 6, 278, 4, 97, 110, 100, 95, 9, 14, 95, 111, 112, 101, 114, 97, 116, 111, 114, 46, 97, 110, 100, 95, 6, 279, 3, 120, 111, 114, 9, 13, 95, 111, 112, 101, 114, 97, 116, 111, 114, 46, 120, 111, 114, 6, 280, 3, 111, 114, 95, 9, 13, 95, 111, 112, 101, 114, 97, 116, 111, 114, 46, 111, 114, 95, 6, 281, 4, 105, 97, 100, 100, 9, 14, 95, 111, 112, 101, 114, 97, 116, 111, 114, 46, 105, 97, 100, 100, 6, 282, 4, 105, 115, 117, 98, 9, 14, 95, 111, 112, 101, 114, 97, 116, 111, 114, 46, 105, 115, 117, 98, 6, 283, 4, 105, 109, 117, 108, 9, 14, 95, 111, 112, 101, 114, 97, 116, 111, 114, 46, 105, 109, 117, 108, 6, 284, 7, 105, 109, 97, 116, 109, 117, 108, 9, 17, 95, 111, 112, 101, 114, 97, 116, 111, 114, 46, 105, 109, 97, 116, 109, 117, 108, 6, 285, 9, 105, 102, 108, 111, 111, 114, 100, 105, 118, 9, 19, 95, 111, 112, 101, 114, 97, 116, 111, 114, 46, 105, 102, 108, 111, 111, 114, 100, 105, 118, 6, 286, 8, 105, 116, 114, 117, 101, 100, 105, 118, 9, 18, 95, 111, 112, 101, 114, 97, 116, 111, 114, 46, 105, 116, 114, 117, 101, 100, 105, 118, 6, 287, 4, 105, 109, 111, 100, 9, 14, 95, 111, 112, 101, 114, 97, 116, 111, 114, 46, 105, 109, 111, 100, 6, 288, 7, 105, 108, 115, 104, 105, 102, 116, 9, 17, 95, 111, 112, 101, 114, 97, 116, 111, 114, 46, 105, 108, 115, 104, 105, 102, 116, 6, 289, 7, 105, 114, 115, 104, 105, 102, 116, 9, 17, 95, 111, 112, 101, 114, 97, 116, 111, 114, 46, 105, 114, 115, 104, 105, 102, 116, 6, 290, 4, 105, 97, 110, 100, 9, 14, 95, 111, 112, 101, 114, 97, 116, 111, 114, 46, 105, 97, 110, 100, 6, 291, 4, 105, 120, 111, 114, 9, 14, 95, 111, 112, 101, 114, 97, 116, 111, 114, 46, 105, 120, 111, 114, 6, 292, 3, 105, 111, 114, 9, 13, 95, 111, 112, 101, 114, 97, 116, 111, 114, 46, 105, 111, 114, 6, 293, 6, 99, 111, 110, 99, 97, 116, 9, 16, 95, 111, 112, 101, 114, 97, 116, 111, 114, 46, 99, 111, 110, 99, 97, 116, 6, 294, 7, 105, 99, 111, 110, 99, 97, 116, 9, 17, 95, 111, 112, 101, 114, 97, 116, 111, 114, 46, 105, 99, 111, 110, 99, 97, 116, 6, 295, 7, 103, 101, 116, 105, 116, 101, 109, 9, 17, 95, 111, 112, 101, 114, 97, 116, 111, 114, 46, 103, 101, 116, 105, 116, 101, 109, 6, 296, 7, 115, 101, 116, 105, 116, 101, 109, 9, 17, 95, 111, 112, 101, 114, 97, 116, 111, 114, 46, 115, 101, 116, 105, 116, 101, 109, 6, 297, 7, 100, 101, 108, 105, 116, 101, 109, 9, 17, 95, 111, 112, 101, 114, 97, 116, 111, 114, 46, 100, 101, 108, 105, 116, 101, 109, 6, 298, 3, 112, 111, 119, 9, 13, 95, 111, 112, 101, 114, 97, 116, 111, 114, 46, 112, 111, 119, 6, 299, 4, 105, 112, 111, 119, 9, 14, 95, 111, 112, 101, 114, 97, 116, 111, 114, 46, 105, 112, 111, 119, 6, 300, 2, 101, 113, 9, 12, 95, 111, 112, 101, 114, 97, 116, 111, 114, 46, 101, 113, 6, 301, 2, 110, 101, 9, 12, 95, 111, 112, 101, 114, 97, 116, 111, 114, 46, 110, 101, 6, 302, 2, 108, 116, 9, 12, 95, 111, 112, 101, 114, 97, 116, 111, 114, 46, 108, 116, 6, 303, 2, 108, 101, 9, 12, 95, 111, 112, 101, 114, 97, 116, 111, 114, 46, 108, 101, 6, 304, 2, 103, 116, 9, 12, 95, 111, 112, 101, 114, 97, 116, 111, 114, 46, 103, 116, 6, 305, 2, 103, 101, 9, 12, 95, 111, 112, 101, 114, 97, 116, 111, 114, 46, 103, 101, 6, 306, 15, 95, 99, 111, 109, 112, 97, 114, 101, 95, 100, 105, 103, 101, 115, 116, 9, 25, 95, 111, 112, 101, 114, 97, 116, 111, 114, 46, 95, 99, 111, 109, 112, 97, 114, 101, 95, 100, 105, 103, 101, 115, 116, 6, 307, 11, 108, 101, 110, 103, 116, 104, 95, 104, 105, 110, 116, 9, 21, 95, 111, 112, 101, 114, 97, 116, 111, 114, 46, 108, 101, 110, 103, 116, 104, 95, 104, 105, 110, 116, 6, 308, 4, 99, 97, 108, 108, 9, 14, 95, 111, 112, 101, 114, 97, 116, 111, 114, 46, 99, 97, 108, 108, 6, 309, 10, 97, 116, 116, 114, 103, 101, 116, 116, 101, 114, 8, 19, 111, 112, 101, 114, 97, 116, 111, 114, 46, 97, 116, 116, 114, 103, 101, 116, 116, 101, 114, 6, 310, 10, 105, 116, 101, 109, 103, 101, 116, 116, 101, 114, 8, 19, 111, 112, 101, 114, 97, 116, 111, 114, 46, 105, 116, 101, 109, 103, 101, 116, 116, 101, 114, 6, 311, 12, 109, 101, 116, 104, 111, 100, 99, 97, 108, 108, 101, 114, 8, 21, 111, 112, 101, 114, 97, 116, 111, 114, 46, 109, 101, 116, 104, 111, 100, 99, 97, 108, 108, 101, 114]⟩ 0, .bool true, .bool false, .str (S "_operator") 313, .int (30) 0, .str ⟨#[6, 401, 8, 95, 95, 110, 97, 109, 101, 95, 95, 6, 400, 7, 95, 115, 116, 114, 117, 99, 116, 6, 402, 7, 95, 95, 100, 111, 99, 95, 95, 9, 26, 95, 115, 116, 114, 117, 99, 116, 46, 95, 95, 100, 111, 99, 95, 95, 58, 115, 116, 114, 35, 111, 112, 97, 113, 117, 101, 6, 404, 11, 95, 95, 112, 97, 99, 107, 97, 103, 101, 95, 95, 6, 403, 0, 6, 405, 10, 95, 95, 108, 111, 97, 100, 101, 114, 95, 95, 4, 0, 0, 46, 6, 406, 8, 95, 95, 115, 112, 101, 99, 95, 95, 4, 0, 0, 49, 6, 407, 11, 95, 99, 108, 101, 97, 114, 99, 97, 99, 104, 101, 9, 19, 95, 115, 116, 114, 117, 99, 116, 46, 95, 99, 108, 101, 97, 114, 99, 97, 99, 104, 101, 6, 408, 8, 99, 97, 108, 99, 115, 105, 122, 101, 9, 16, 95, 115, 116, 114, 117, 99, 116, 46, 99, 97, 108, 99, 115, 105, 122, 101, 6, 409, 11, 105, 116, 101, 114, 95, 117, 110, 112, 97, 99, 107, 9, 19, 95, 115, 116, 114, 117, 99, 116, 46, 105, 116, 101, 114, 95, 117, 110, 112, 97, 99, 107, 6, 410, 4, 112, 97, 99, 107, 9, 12, 95, 115, 116, 114, 117, 99, 116, 46, 112, 97, 99, 107, 6, 411, 9, 112, 97, 99, 107, 95, 105, 110, 116, 111, 9, 17, 95, 115, 116, 114, 117, 99, 116, 46, 112, 97, 99, 107, 95, 105, 110, 116, 111, 6, 412, 6, 117, 110, 112, 97, 99, 107, 9, 14, 95, 115, 116, 114, 117, 99, 116, 46, 117, 110, 112, 97, 99, 107, 6, 413, 11, 117, 110, 112, 97, 99, 107, 95, 102, 114, 111, 109, 9, 19, 95, 115, 116, 114, 117, 99, 116, 46, 117, 110, 112, 97, 99, 107, 95, 102, 114, 111, 109, 6, 414, 8, 95, 95, 102, 105, 108, 101, 95, 95, 6, 328, 126, 47, 110, 105, 120, 47, 115, 116, 111, 114, 101, 47, 119, 106, 49, 102, 53, 54, 113, 107, 121, 52, 112, 109, 106, 99, 55, 108, 48, 114, 54, 98, 54, 108, 55, 119, 104, 110, 110, 119, 55, 104, 112, 54, 45, 112, 121, 116, 104, 111, 110, 51, 45, 51, 46, 49, 51, 46, 49, 53, 47, 108, 105, 98, 47, 112, 121, 116, 104, 111, 110, 51, 46, 49, 51, 47, 108, 105, 98, 45, 100, 121, 110, 108, 111, 97, 100, 47, 95, 115, 116, 114, 117, 99, 116, 46, 99, 112, 121, 116, 104, 111, 110, 45, 51, 49, 51, 45, 120, 56, 54, 95, 54, 52, 45, 108, 105, 110, 117, 120, 45, 103, 110, 117, 46, 115, 111, 6, 415, 6, 83, 116, 114, 117, 99, 116, 8, 14, 95, 115, 116, 114, 117, 99, 116, 46, 83, 116, 114, 117, 99, 116, 6, 417, 5, 101, 114, 114, 111, 114, 8, 12, 115, 116, 114, 117, 99, 116, 46, 101, 114, 114, 111, 114]⟩ 0, .bool true, .bool false, .str (S "_struct") 419] 1), #[]⟩
noncomputable def q29 (_ : Params) : Obj := ⟨.type "tuple", none, (.seq #[.str (S "pack") 323, .str (S "unpack") 324] 0), #[]⟩
noncomputable def q30 (P : Params) : Obj := ⟨.type "dict", none, (.dict #[K P (S "__name__") 401 (.str (S "_struct") 400), K P (S "__doc__") 402 (.builtin "off-the-table:_struct.__doc__:shared#opaque"), K P (S "__package__") 404 (.str (S "") 403), K P (S "__loader__") 405 (.builtin "off-the-table:_struct.__loader__:shared#opaque"), K P (S "__spec__") 406 (.builtin "off-the-table:_struct.__spec__:shared#opaque"), K P (S "_clearcache") 407 (.builtin "off-the-table:_struct._clearcache:shared#opaque"), K P (S "calcsize") 408 (.builtin "_struct.calcsize"), K P (S "iter_unpack") 409 (.builtin "_struct.iter_unpack"), K P (S "pack") 410 (.builtin "_struct.pack"), K P (S "pack_into") 411 (.builtin "_struct.pack_into"), K P (S "unpack") 412 (.builtin "_struct.unpack"), K P (S "unpack_from") 413 (.builtin "_struct.unpack_from"), K P (S "__file__") 414 (.str ⟨#[47, 110, 105, 120, 47, 115, 116, 111, 114, 101, 47, 119, 106, 49, 102, 53, 54, 113, 107, 121, 52, 112, 109, 106, 99, 55, 108, 48, 114, 54, 98, 54, 108, 55, 119, 104, 110, 110, 119, 55, 104, 112, 54, 45, 112, 121, 116, 104, 111, 110, 51, 45, 51, 46, 49, 51, 46, 49, 53, 47, 108, 105, 98, 47, 112, 121, 116, 104, 111, 110, 51, 46, 49, 51, 47, 108, 105, 98, 45, 100, 121, 110, 108, 111, 97, 100, 47, 95, 115, 116, 114, 117, 99, 116, 46, 99, 112, 121, 116, 104, 111, 110, 45, 51, 49, 51, 45, 120, 56, 54, 95, 54, 52, 45, 108, 105, 110, 117, 120, 45, 103, 110, 117, 46, 115, 111]⟩ 328), K P (S "Struct") 415 (.type "_struct.Struct"), K P (S "error") 417 (.type "struct.error")] 15), #[]⟩
noncomputable def q31 (_ : Params) : Obj := ⟨.type "module", some 30, .plain, #[]⟩
noncomputable def q32 (P : Params) : Obj := ⟨.type "dict", none, (.dict #[K P (S "name") 330 (.str (S "_struct") 329), K P (S "path") 331 (.str ⟨#[47, 110, 105, 120, 47, 115, 116, 111, 114, 101, 47, 119, 106, 49, 102, 53, 54, 113, 107, 121, 52, 112, 109, 106, 99, 55, 108, 48, 114, 54, 98, 54, 108, 55, 119, 104, 110, 110, 119, 55, 104, 112, 54, 45, 112, 121, 116, 104, 111, 110, 51, 45, 51, 46, 49, 51, 46, 49, 53, 47, 108, 105, 98, 47, 112, 121, 116, 104, 111, 110, 51, 46, 49, 51, 47, 108, 105, 98, 45, 100, 121, 110, 108, 111, 97, 100, 47, 95, 115, 116, 114, 117, 99, 116, 46, 99, 112, 121, 116, 104, 111, 110, 45, 51, 49, 51, 45, 120, 56, 54, 95, 54, 52, 45, 108, 105, 110, 117, 120, 45, 103, 110, 117, 46, 115, 111]⟩ 328)] 2), #[]⟩
noncomputable def q33 (P : Params) : Obj := ⟨.type "dict", none, (.dict #[K P (S "__module__") 335 (.str (S "_frozen_importlib_external") 333), K P (S "__firstlineno__") 336 (.int (1001) 334), K P (S "__doc__") 337 (.builtin "_frozen_importlib_external._LoaderBasics.__doc__:str#opaque"), K P (S "is_package") 338 (.builtin "_frozen_importlib_external._LoaderBasics.is_package#opaque"), K P (S "create_module") 339 (.builtin "_frozen_importlib_external._LoaderBasics.create_module#opaque"), K P (S "exec_module") 340 (.builtin "_frozen_importlib_external._LoaderBasics.exec_module#opaque"), K P (S "load_module") 341 (.builtin "_frozen_importlib_external._LoaderBasics.load_module#opaque"), K P (S "__static_attributes__") 342 (.ref 35), K P (S "__dict__") 344 (.ref 36), K P (S "__weakref__") 346 (.ref 37)] 10), #[]⟩
noncomputable def q34 (_ : Params) : Obj := ⟨.type "type", none, (.cls { name := (S "_LoaderBasics"), bases := [.type "object"], mro := [.ref 34, .type "object"], ns := 33, qualname := (S "_LoaderBasics"), hasDict := true, slotNames := [], subclasses := [.ref 44], abstract := false, collection := none, hasDel := false }), #[]⟩
noncomputable def q35 (_ : Params) : Obj := ⟨.type "tuple", none, (.seq #[] 0), #[]⟩
noncomputable def q36 (_ : Params) : Obj := ⟨.type "getset_descriptor", none, (.fields #[.str (S "__dict__") 343, .ref 34, .builtin "function.__dict__", .builtin "function.__dict__#set"]), #[]⟩
noncomputable def q37 (_ : Params) : Obj := ⟨.type "getset_descriptor", none, (.fields #[.str (S "__weakref__") 345, .ref 34, .builtin "ExceptionGroup.__weakref__", .none]), #[]⟩
noncomputable def q38 (P : Params) : Obj := ⟨.type "dict", none, (.dict #[K P (S "__module__") 353 (.str (S "_frozen_importlib_external") 349), K P (S "__firstlineno__") 354 (.int (1176) 350), K P (S "__doc__") 355 (.builtin "_frozen_importlib_external.FileLoader.__doc__:str#opaque"), K P (S "__init__") 356 (.builtin "_frozen_importlib_external.FileLoader.__init__#opaque"), K P (S "__eq__") 357 (.builtin "_frozen_importlib_external.FileLoader.__eq__#opaque"), K P (S "__hash__") 358 (.builtin "_frozen_importlib_external.FileLoader.__hash__#opaque"), K P (S "load_module") 359 (.builtin "_frozen_importlib_external.FileLoader.load_module#opaque"), K P (S "get_filename") 360 (.builtin "_frozen_importlib_external.FileLoader.get_filename#opaque"), K P (S "get_data") 361 (.builtin "_frozen_importlib_external.FileLoader.get_data#opaque"), K P (S "get_resource_reader") 362 (.builtin "_frozen_importlib_external.FileLoader.get_resource_reader#opaque"), K P (S "__static_attributes__") 363 (.ref 40), K P (S "__dict__") 365 (.ref 41), K P (S "__weakref__") 367 (.ref 42)] 13), #[]⟩
noncomputable def q39 (_ : Params) : Obj := ⟨.type "type", none, (.cls { name := (S "FileLoader"), bases := [.type "object"], mro := [.ref 39, .type "object"], ns := 38, qualname := (S "FileLoader"), hasDict := true, slotNames := [], subclasses := [.ref 44], abstract := false, collection := none, hasDel := false }), #[]⟩
noncomputable def q40 (_ : Params) : Obj := ⟨.type "tuple", none, (.seq #[.str (S "name") 351, .str (S "path") 352] 0), #[]⟩
noncomputable def q41 (_ : Params) : Obj := ⟨.type "getset_descriptor", none, (.fields #[.str (S "__dict__") 364, .ref 39, .builtin "function.__dict__", .builtin "function.__dict__#set"]), #[]⟩
noncomputable def q42 (_ : Params) : Obj := ⟨.type "getset_descriptor", none, (.fields #[.str (S "__weakref__") 366, .ref 39, .builtin "ExceptionGroup.__weakref__", .none]), #[]⟩
noncomputable def q43 (P : Params) : Obj := ⟨.type "dict", none, (.dict #[K P (S "__module__") 374 (.str (S "_frozen_importlib_external") 370), K P (S "__firstlineno__") 375 (.int (1296) 371), K P (S "__doc__") 376 (.builtin "_frozen_importlib_external.ExtensionFileLoader.__doc__:str#opaque"), K P (S "__init__") 377 (.builtin "_frozen_importlib_external.ExtensionFileLoader.__init__#opaque"), K P (S "__eq__") 378 (.builtin "_frozen_importlib_external.ExtensionFileLoader.__eq__#opaque"), K P (S "__hash__") 379 (.builtin "_frozen_importlib_external.ExtensionFileLoader.__hash__#opaque"), K P (S "create_module") 380 (.builtin "_frozen_importlib_external.ExtensionFileLoader.create_module#opaque"), K P (S "exec_module") 381 (.builtin "_frozen_importlib_external.ExtensionFileLoader.exec_module#opaque"), K P (S "is_package") 382 (.builtin "_frozen_importlib_external.ExtensionFileLoader.is_package#opaque"), K P (S "get_code") 383 (.builtin "_frozen_importlib_external.ExtensionFileLoader.get_code#opaque"), K P (S "get_source") 384 (.builtin "_frozen_importlib_external.ExtensionFileLoader.get_source#opaque"), K P (S "get_filename") 385 (.builtin "_frozen_importlib_external.ExtensionFileLoader.get_filename#opaque"), K P (S "__static_attributes__") 386 (.ref 45)] 13), #[]⟩
noncomputable def q44 (_ : Params) : Obj := ⟨.type "type", none, (.cls { name := (S "ExtensionFileLoader"), bases := [.ref 39, .ref 34], mro := [.ref 44, .ref 39, .ref 34, .type "object"], ns := 43, qualname := (S "ExtensionFileLoader"), hasDict := true, slotNames := [], subclasses := [], abstract := false, collection := none, hasDel := false }), #[]⟩
noncomputable def q45 (_ : Params) : Obj := ⟨.type "tuple", none, (.seq #[.str (S "name") 372, .str (S "path") 373] 0), #[]⟩
noncomputable def q46 (_ : Params) : Obj := ⟨.ref 44, some 32, .plain, #[]⟩
noncomputable def q47 (_ : Params) : Obj := ⟨.type "list", none, (.seq #[] 0), #[]⟩
noncomputable def q48 (P : Params) : Obj := ⟨.type "dict", none, (.dict #[K P (S "name") 389 (.str (S "_struct") 388), K P (S "loader") 390 (.ref 46), K P (S "origin") 391 (.str ⟨#[47, 110, 105, 120, 47, 115, 116, 111, 114, 101, 47, 119, 106, 49, 102, 53, 54, 113, 107, 121, 52, 112, 109, 106, 99, 55, 108, 48, 114, 54, 98, 54, 108, 55, 119, 104, 110, 110, 119, 55, 104, 112, 54, 45, 112, 121, 116, 104, 111, 110, 51, 45, 51, 46, 49, 51, 46, 49, 53, 47, 108, 105, 98, 47, 112, 121, 116, 104, 111, 110, 51, 46, 49, 51, 47, 108, 105, 98, 45, 100, 121, 110, 108, 111, 97, 100, 47, 95, 115, 116, 114, 117, 99, 116, 46, 99, 112, 121, 116, 104, 111, 110, 45, 51, 49, 51, 45, 120, 56, 54, 95, 54, 52, 45, 108, 105, 110, 117, 120, 45, 103, 110, 117, 46, 115, 111]⟩ 328), K P (S "loader_state") 392 (.none), K P (S "submodule_search_locations") 393 (.none), K P (S "_uninitialized_submodules") 394 (.ref 47), K P (S "_set_fileattr") 395 (.bool true), K P (S "_cached") 396 (.none), K P (S "_initializing") 397 (.bool false)] 9), #[]⟩
noncomputable def q49 (_ : Params) : Obj := ⟨.ref 23, some 48, .plain, #[]⟩
noncomputable def q50 (_ : Params) : Obj := ⟨.type "tuple", none, (.seq #[] 0), #[]⟩
noncomputable def q51 (_ : Params) : Obj := ⟨.none, none, (.fields #[]), #[]⟩
noncomputable def q52 (_ : Params) : Obj := ⟨.type "code", none, (.fields #[.str (S "<module>") 430, .str (S "<module>") 431, .str (S "/claim/cut.py") 432, .int (1) 0, .int (0) 0, .int (0) 0, .int (0) 0, .int (0) 0, .ref 50, .bool false, .int (429) 0, .ref 51, .none, .none, .none, .none, .int (433) 0, .int (1) 0, .str (S "/claim/cut.py") 434]), #[]⟩
noncomputable def q53 (_ : Params) : Obj := ⟨.type "frame", none, .plain, #[some (.ref 52), some (.ref 3), some (.ref 3), none, some (.str (S "__main__") 164), none, some (.ref 0)]⟩
noncomputable def q3_1 (P : Params) : Obj := ⟨.type "dict", none, (.dict #[K P (S "__name__") 165 (.str (S "pypng.png") 596), K P (S "__doc__") 166 (.none), K P (S "__package__") 167 (.none), K P (S "__loader__") 168 (.builtin "__main__.__loader__#opaque"), K P (S "__spec__") 169 (.none), K P (S "__annotations__") 170 (.ref 6), K P (S "__builtins__") 171 (.ref 4), K P (S "__file__") 173 (.str (S "/claim/cut.py") 172), K P (S "__cached__") 174 (.none), K P (S "add") 321 (.builtin "_operator.add"), K P (S "pack") 425 (.builtin "_struct.pack"), K P (S "unpack") 428 (.builtin "_struct.unpack"), K P (S "_wall") 441 (.ref 60), K P (S "_pe_name") 448 (.ref 67), K P (S "CRC") 467 (.ref 68), K P (S "BytesIO") 544 (.ref 126), K P (S "Zlib") 594 (.ref 163), K P (S "zlib") 595 (.ref 169), K P (S "_tuplegetter") 654 (.ref 208), K P (S "signature") 656 (.bytes #[137, 80, 78, 71, 13, 10, 26, 10] 655), K P (S "adam7") 685 (.ref 220), K P (S "adam7_generate") 698 (.ref 227), K P (S "_Resolution") 826 (.ref 298)] 23), #[]⟩
noncomputable def q51_1 (_ : Params) : Obj := ⟨.none, none, (.fields #[.int (3) 0, .int (0) 0, .ref 59, .int (6) 0, .int (0) 0, .ref 66, .int (12) 0, .int (0) 0, .ref 74, .int (38) 0, .int (0) 0, .ref 136, .int (55) 0, .int (0) 0, .ref 175, .int (75) 0, .int (0) 0, .ref 226, .int (90) 0, .int (0) 0, .ref 234]), #[]⟩
noncomputable def q54 (_ : Params) : Obj := ⟨.type "tuple", none, (.seq #[] 0), #[]⟩
noncomputable def q55 (_ : Params) : Obj := ⟨.none, none, (.fields #[]), #[]⟩
noncomputable def q56 (_ : Params) : Obj := ⟨.type "tuple", none, (.seq #[.str (S "k") 438] 0), #[]⟩
noncomputable def q57 (_ : Params) : Obj := ⟨.type "tuple", none, (.seq #[] 0), #[]⟩
noncomputable def q58 (_ : Params) : Obj := ⟨.none, none, (.func { name := (S "_wall"), qualname := (S "_wall"), params := argsS (topS 2), body := .stmts (bodyS (topS 2)), scope := scopeS (topS 2), globals := 0, closure := [], defaults := .none, kwdefaults := .none, doc := .none, pyModule := .none, annotations := none, code := .none, closureTuple := .none, builtins := 0 }), #[]⟩
noncomputable def q59 (_ : Params) : Obj := ⟨.type "code", none, (.fields #[.str (S "_wall") 435, .str (S "_wall") 436, .str (S "/claim/cut.py") 437, .int (3) 0, .int (1) 0, .int (0) 0, .int (0) 0, .int (3) 0, .ref 54, .bool true, .int (429) 0, .ref 55, .none, .ref 56, .ref 57, .ref 58, .int (439) 0, .int (3) 0, .str (S "/claim/cut.py") 440]), #[]⟩
noncomputable def q60 (_ : Params) : Obj := ⟨.type "function", none, (.func { name := (S "_wall"), qualname := (S "_wall"), params := argsS (topS 2), body := .stmts (bodyS (topS 2)), scope := scopeS (topS 2), globals := 3, closure := [], defaults := .none, kwdefaults := .none, doc := .none, pyModule := .str (S "__main__") 164, annotations := none, code := .ref 59, closureTuple := .none, builtins := 0 }), #[]⟩
noncomputable def q61 (_ : Params) : Obj := ⟨.type "tuple", none, (.seq #[] 0), #[]⟩
noncomputable def q62 (_ : Params) : Obj := ⟨.none, none, (.fields #[]), #[]⟩
noncomputable def q63 (_ : Params) : Obj := ⟨.type "tuple", none, (.seq #[.str (S "n") 445] 0), #[]⟩
noncomputable def q64 (_ : Params) : Obj := ⟨.type "tuple", none, (.seq #[] 0), #[]⟩
noncomputable def q65 (_ : Params) : Obj := ⟨.none, none, (.func { name := (S "_pe_name"), qualname := (S "_pe_name"), params := argsS (topS 3), body := .stmts (bodyS (topS 3)), scope := scopeS (topS 3), globals := 0, closure := [], defaults := .none, kwdefaults := .none, doc := .none, pyModule := .none, annotations := none, code := .none, closureTuple := .none, builtins := 0 }), #[]⟩
noncomputable def q66 (_ : Params) : Obj := ⟨.type "code", none, (.fields #[.str (S "_pe_name") 442, .str (S "_pe_name") 443, .str (S "/claim/cut.py") 444, .int (6) 0, .int (1) 0, .int (0) 0, .int (0) 0, .int (3) 0, .ref 61, .bool true, .int (429) 0, .ref 62, .none, .ref 63, .ref 64, .ref 65, .int (446) 0, .int (6) 0, .str (S "/claim/cut.py") 447]), #[]⟩
noncomputable def q67 (_ : Params) : Obj := ⟨.type "function", none, (.func { name := (S "_pe_name"), qualname := (S "_pe_name"), params := argsS (topS 3), body := .stmts (bodyS (topS 3)), scope := scopeS (topS 3), globals := 3, closure := [], defaults := .none, kwdefaults := .none, doc := .none, pyModule := .str (S "__main__") 164, annotations := none, code := .ref 66, closureTuple := .none, builtins := 0 }), #[]⟩
noncomputable def q68 (_ : Params) : Obj := ⟨.type "tuple", none, (.seq #[.int (1304293916) 451, .int (1342890616) 452, .int (1993593556) 453, .int (1801765552) 454, .int (996258700) 455, .int (651600872) 456, .int (1020740) 457, .int (498631456) 458, .int (2684711228) 459, .int (3182584152) 460, .int (2607501812) 461, .int (2262581648) 462, .int (3604557996) 463, .int (3412992200) 464, .int (3988197476) 465, .int (4026531840) 466] 0), #[]⟩
noncomputable def q69 (_ : Params) : Obj := ⟨.type "tuple", none, (.seq #[] 0), #[]⟩
noncomputable def q70 (_ : Params) : Obj := ⟨.type "builtin_function_or_method", none, (.fields #[.builtin "type.__prepare__", .type "type"]), #[]⟩
noncomputable def q71 (P : Params) : Obj := ⟨.type "dict", none, (.dict #[K P (S "__module__") 475 (.str (S "pypng.standins") 449), K P (S "__qualname__") 477 (.str (S "BytesIO") 476), K P (S "__firstlineno__") 479 (.int (12) 478), K P (S "__doc__") 481 (.str ⟨#[65, 32, 115, 116, 114, 101, 97, 109, 58, 32, 119, 104, 97, 116, 32, 105, 115, 32, 119, 114, 105, 116, 116, 101, 110, 32, 99, 111, 109, 101, 115, 32, 108, 97, 115, 116, 44, 32, 119, 104, 97, 116, 32, 105, 115, 32, 114, 101, 97, 100, 32, 105, 115, 32, 116, 97, 107, 101, 110, 32, 111, 102, 102, 32, 116, 104, 101, 32, 102, 114, 111, 110, 116, 46, 10, 65, 110, 100, 32, 111, 110, 101, 32, 112, 97, 99, 107, 105, 110, 103, 44, 32, 111, 114, 32, 111, 110, 101, 32, 117, 110, 112, 97, 99, 107, 105, 110, 103, 58, 32, 101, 97, 99, 104, 32, 111, 99, 116, 101, 116, 32, 116, 117, 114, 110, 101, 100, 32, 114, 111, 117, 110, 100, 32, 40, 50, 53, 53, 32, 108, 101, 115, 115, 32, 105, 116, 41, 44, 32, 116, 104, 101, 32, 108, 97, 115, 116, 32, 111, 110, 101, 32, 104, 101, 108, 100, 32, 98, 97, 99, 107, 32, 116, 105, 108, 108, 32, 116, 104, 101, 32, 110, 101, 120, 116, 32, 99, 97, 108, 108, 46]⟩ 480), K P (S "__init__") 491 (.ref 83), K P (S "read") 500 (.ref 90), K P (S "write") 508 (.ref 97), K P (S "getvalue") 515 (.ref 104), K P (S "compress") 521 (.ref 109), K P (S "decompress") 529 (.ref 116), K P (S "flush") 536 (.ref 123), K P (S "__static_attributes__") 538 (.ref 124)] 12), #[]⟩
noncomputable def q72 (_ : Params) : Obj := ⟨.type "tuple", none, (.seq #[] 0), #[]⟩
noncomputable def q73 (_ : Params) : Obj := ⟨.none, none, (.fields #[.int (16) 0, .int (4) 0, .ref 82, .int (19) 0, .int (4) 0, .ref 89, .int (23) 0, .int (4) 0, .ref 96, .int (26) 0, .int (4) 0, .ref 103, .int (29) 0, .int (4) 0, .ref 108, .int (33) 0, .int (4) 0, .ref 115, .int (36) 0, .int (4) 0, .ref 122]), #[]⟩
noncomputable def q74 (_ : Params) : Obj := ⟨.type "code", none, (.fields #[.str (S "BytesIO") 470, .str (S "BytesIO") 471, .str (S "/claim/cut.py") 472, .int (12) 0, .int (0) 0, .int (0) 0, .int (0) 0, .int (0) 0, .ref 72, .bool false, .int (429) 0, .ref 73, .none, .none, .none, .none, .int (473) 0, .int (12) 0, .str (S "/claim/cut.py") 474]), #[]⟩
noncomputable def q75 (_ : Params) : Obj := ⟨.type "frame", none, .plain, #[some (.ref 74), some (.ref 3), some (.ref 71), none, some (.str (S "pypng.standins") 449), none, some (.ref 0)]⟩
noncomputable def q76 (_ : Params) : Obj := ⟨.type "tuple", none, (.seq #[.bytes #[] 483] 0), #[]⟩
noncomputable def q77 (_ : Params) : Obj := ⟨.type "tuple", none, (.seq #[] 0), #[]⟩
noncomputable def q78 (_ : Params) : Obj := ⟨.none, none, (.fields #[]), #[]⟩
noncomputable def q79 (_ : Params) : Obj := ⟨.type "tuple", none, (.seq #[.str (S "self") 487, .str (S "octets") 488] 0), #[]⟩
noncomputable def q80 (_ : Params) : Obj := ⟨.type "tuple", none, (.seq #[] 0), #[]⟩
noncomputable def q81 (_ : Params) : Obj := ⟨.none, none, (.func { name := (S "__init__"), qualname := (S "BytesIO.__init__"), params := argsS (clsS 6 1), body := .stmts (bodyS (clsS 6 1)), scope := scopeS (clsS 6 1), globals := 0, closure := [], defaults := .none, kwdefaults := .none, doc := .none, pyModule := .none, annotations := none, code := .none, closureTuple := .none, builtins := 0 }), #[]⟩
noncomputable def q82 (_ : Params) : Obj := ⟨.type "code", none, (.fields #[.str (S "__init__") 484, .str (S "BytesIO.__init__") 485, .str (S "/claim/cut.py") 486, .int (16) 0, .int (2) 0, .int (0) 0, .int (0) 0, .int (3) 0, .ref 77, .bool true, .int (429) 0, .ref 78, .none, .ref 79, .ref 80, .ref 81, .int (489) 0, .int (16) 0, .str (S "/claim/cut.py") 490]), #[]⟩
noncomputable def q83 (_ : Params) : Obj := ⟨.type "function", none, (.func { name := (S "__init__"), qualname := (S "BytesIO.__init__"), params := argsS (clsS 6 1), body := .stmts (bodyS (clsS 6 1)), scope := scopeS (clsS 6 1), globals := 3, closure := [], defaults := .ref 76, kwdefaults := .none, doc := .none, pyModule := .str (S "pypng.standins") 449, annotations := none, code := .ref 82, closureTuple := .none, builtins := 0 }), #[]⟩
noncomputable def q84 (_ : Params) : Obj := ⟨.type "tuple", none, (.seq #[] 0), #[]⟩
noncomputable def q85 (_ : Params) : Obj := ⟨.none, none, (.fields #[]), #[]⟩
noncomputable def q86 (_ : Params) : Obj := ⟨.type "tuple", none, (.seq #[.str (S "self") 495, .str (S "size") 496, .str (S "part") 497] 0), #[]⟩
noncomputable def q87 (_ : Params) : Obj := ⟨.type "tuple", none, (.seq #[] 0), #[]⟩
noncomputable def q88 (_ : Params) : Obj := ⟨.none, none, (.func { name := (S "read"), qualname := (S "BytesIO.read"), params := argsS (clsS 6 2), body := .stmts (bodyS (clsS 6 2)), scope := scopeS (clsS 6 2), globals := 0, closure := [], defaults := .none, kwdefaults := .none, doc := .none, pyModule := .none, annotations := none, code := .none, closureTuple := .none, builtins := 0 }), #[]⟩
noncomputable def q89 (_ : Params) : Obj := ⟨.type "code", none, (.fields #[.str (S "read") 492, .str (S "BytesIO.read") 493, .str (S "/claim/cut.py") 494, .int (19) 0, .int (2) 0, .int (0) 0, .int (0) 0, .int (3) 0, .ref 84, .bool true, .int (429) 0, .ref 85, .none, .ref 86, .ref 87, .ref 88, .int (498) 0, .int (19) 0, .str (S "/claim/cut.py") 499]), #[]⟩
noncomputable def q90 (_ : Params) : Obj := ⟨.type "function", none, (.func { name := (S "read"), qualname := (S "BytesIO.read"), params := argsS (clsS 6 2), body := .stmts (bodyS (clsS 6 2)), scope := scopeS (clsS 6 2), globals := 3, closure := [], defaults := .none, kwdefaults := .none, doc := .none, pyModule := .str (S "pypng.standins") 449, annotations := none, code := .ref 89, closureTuple := .none, builtins := 0 }), #[]⟩
noncomputable def q91 (_ : Params) : Obj := ⟨.type "tuple", none, (.seq #[] 0), #[]⟩
noncomputable def q92 (_ : Params) : Obj := ⟨.none, none, (.fields #[]), #[]⟩
noncomputable def q93 (_ : Params) : Obj := ⟨.type "tuple", none, (.seq #[.str (S "self") 504, .str (S "octets") 505] 0), #[]⟩
noncomputable def q94 (_ : Params) : Obj := ⟨.type "tuple", none, (.seq #[] 0), #[]⟩
noncomputable def q95 (_ : Params) : Obj := ⟨.none, none, (.func { name := (S "write"), qualname := (S "BytesIO.write"), params := argsS (clsS 6 3), body := .stmts (bodyS (clsS 6 3)), scope := scopeS (clsS 6 3), globals := 0, closure := [], defaults := .none, kwdefaults := .none, doc := .none, pyModule := .none, annotations := none, code := .none, closureTuple := .none, builtins := 0 }), #[]⟩
noncomputable def q96 (_ : Params) : Obj := ⟨.type "code", none, (.fields #[.str (S "write") 501, .str (S "BytesIO.write") 502, .str (S "/claim/cut.py") 503, .int (23) 0, .int (2) 0, .int (0) 0, .int (0) 0, .int (3) 0, .ref 91, .bool true, .int (429) 0, .ref 92, .none, .ref 93, .ref 94, .ref 95, .int (506) 0, .int (23) 0, .str (S "/claim/cut.py") 507]), #[]⟩
noncomputable def q97 (_ : Params) : Obj := ⟨.type "function", none, (.func { name := (S "write"), qualname := (S "BytesIO.write"), params := argsS (clsS 6 3), body := .stmts (bodyS (clsS 6 3)), scope := scopeS (clsS 6 3), globals := 3, closure := [], defaults := .none, kwdefaults := .none, doc := .none, pyModule := .str (S "pypng.standins") 449, annotations := none, code := .ref 96, closureTuple := .none, builtins := 0 }), #[]⟩
noncomputable def q98 (_ : Params) : Obj := ⟨.type "tuple", none, (.seq #[] 0), #[]⟩
noncomputable def q99 (_ : Params) : Obj := ⟨.none, none, (.fields #[]), #[]⟩
noncomputable def q100 (_ : Params) : Obj := ⟨.type "tuple", none, (.seq #[.str (S "self") 512] 0), #[]⟩
noncomputable def q101 (_ : Params) : Obj := ⟨.type "tuple", none, (.seq #[] 0), #[]⟩
noncomputable def q102 (_ : Params) : Obj := ⟨.none, none, (.func { name := (S "getvalue"), qualname := (S "BytesIO.getvalue"), params := argsS (clsS 6 4), body := .stmts (bodyS (clsS 6 4)), scope := scopeS (clsS 6 4), globals := 0, closure := [], defaults := .none, kwdefaults := .none, doc := .none, pyModule := .none, annotations := none, code := .none, closureTuple := .none, builtins := 0 }), #[]⟩
noncomputable def q103 (_ : Params) : Obj := ⟨.type "code", none, (.fields #[.str (S "getvalue") 509, .str (S "BytesIO.getvalue") 510, .str (S "/claim/cut.py") 511, .int (26) 0, .int (1) 0, .int (0) 0, .int (0) 0, .int (3) 0, .ref 98, .bool true, .int (429) 0, .ref 99, .none, .ref 100, .ref 101, .ref 102, .int (513) 0, .int (26) 0, .str (S "/claim/cut.py") 514]), #[]⟩
noncomputable def q104 (_ : Params) : Obj := ⟨.type "function", none, (.func { name := (S "getvalue"), qualname := (S "BytesIO.getvalue"), params := argsS (clsS 6 4), body := .stmts (bodyS (clsS 6 4)), scope := scopeS (clsS 6 4), globals := 3, closure := [], defaults := .none, kwdefaults := .none, doc := .none, pyModule := .str (S "pypng.standins") 449, annotations := none, code := .ref 103, closureTuple := .none, builtins := 0 }), #[]⟩
noncomputable def q105 (_ : Params) : Obj := ⟨.type "tuple", none, (.seq #[] 0), #[]⟩
noncomputable def q106 (_ : Params) : Obj := ⟨.none, none, (.fields #[]), #[]⟩
noncomputable def q107 (_ : Params) : Obj := ⟨.none, none, (.func { name := (S "compress"), qualname := (S "BytesIO.compress"), params := argsS (clsS 6 5), body := .stmts (bodyS (clsS 6 5)), scope := scopeS (clsS 6 5), globals := 0, closure := [], defaults := .none, kwdefaults := .none, doc := .none, pyModule := .none, annotations := none, code := .none, closureTuple := .none, builtins := 0 }), #[]⟩
noncomputable def q108 (_ : Params) : Obj := ⟨.type "code", none, (.fields #[.str (S "compress") 516, .str (S "BytesIO.compress") 517, .str (S "/claim/cut.py") 518, .int (29) 0, .int (2) 0, .int (0) 0, .int (0) 0, .int (3) 0, .ref 105, .bool true, .int (429) 0, .ref 106, .none, .none, .none, .ref 107, .int (519) 0, .int (29) 0, .str (S "/claim/cut.py") 520]), #[]⟩
noncomputable def q109 (_ : Params) : Obj := ⟨.type "function", none, (.func { name := (S "compress"), qualname := (S "BytesIO.compress"), params := argsS (clsS 6 5), body := .stmts (bodyS (clsS 6 5)), scope := scopeS (clsS 6 5), globals := 3, closure := [], defaults := .none, kwdefaults := .none, doc := .none, pyModule := .str (S "pypng.standins") 449, annotations := none, code := .ref 108, closureTuple := .none, builtins := 0 }), #[]⟩
noncomputable def q110 (_ : Params) : Obj := ⟨.type "tuple", none, (.seq #[] 0), #[]⟩
noncomputable def q111 (_ : Params) : Obj := ⟨.none, none, (.fields #[]), #[]⟩
noncomputable def q112 (_ : Params) : Obj := ⟨.type "tuple", none, (.seq #[.str (S "self") 525, .str (S "octets") 526] 0), #[]⟩
noncomputable def q113 (_ : Params) : Obj := ⟨.type "tuple", none, (.seq #[] 0), #[]⟩
noncomputable def q114 (_ : Params) : Obj := ⟨.none, none, (.func { name := (S "decompress"), qualname := (S "BytesIO.decompress"), params := argsS (clsS 6 6), body := .stmts (bodyS (clsS 6 6)), scope := scopeS (clsS 6 6), globals := 0, closure := [], defaults := .none, kwdefaults := .none, doc := .none, pyModule := .none, annotations := none, code := .none, closureTuple := .none, builtins := 0 }), #[]⟩
noncomputable def q115 (_ : Params) : Obj := ⟨.type "code", none, (.fields #[.str (S "decompress") 522, .str (S "BytesIO.decompress") 523, .str (S "/claim/cut.py") 524, .int (33) 0, .int (2) 0, .int (0) 0, .int (0) 0, .int (3) 0, .ref 110, .bool true, .int (429) 0, .ref 111, .none, .ref 112, .ref 113, .ref 114, .int (527) 0, .int (33) 0, .str (S "/claim/cut.py") 528]), #[]⟩
noncomputable def q116 (_ : Params) : Obj := ⟨.type "function", none, (.func { name := (S "decompress"), qualname := (S "BytesIO.decompress"), params := argsS (clsS 6 6), body := .stmts (bodyS (clsS 6 6)), scope := scopeS (clsS 6 6), globals := 3, closure := [], defaults := .none, kwdefaults := .none, doc := .none, pyModule := .str (S "pypng.standins") 449, annotations := none, code := .ref 115, closureTuple := .none, builtins := 0 }), #[]⟩
noncomputable def q117 (_ : Params) : Obj := ⟨.type "tuple", none, (.seq #[] 0), #[]⟩
noncomputable def q118 (_ : Params) : Obj := ⟨.none, none, (.fields #[]), #[]⟩
noncomputable def q119 (_ : Params) : Obj := ⟨.type "tuple", none, (.seq #[.str (S "self") 533] 0), #[]⟩
noncomputable def q120 (_ : Params) : Obj := ⟨.type "tuple", none, (.seq #[] 0), #[]⟩
noncomputable def q121 (_ : Params) : Obj := ⟨.none, none, (.func { name := (S "flush"), qualname := (S "BytesIO.flush"), params := argsS (clsS 6 7), body := .stmts (bodyS (clsS 6 7)), scope := scopeS (clsS 6 7), globals := 0, closure := [], defaults := .none, kwdefaults := .none, doc := .none, pyModule := .none, annotations := none, code := .none, closureTuple := .none, builtins := 0 }), #[]⟩
noncomputable def q122 (_ : Params) : Obj := ⟨.type "code", none, (.fields #[.str (S "flush") 530, .str (S "BytesIO.flush") 531, .str (S "/claim/cut.py") 532, .int (36) 0, .int (1) 0, .int (0) 0, .int (0) 0, .int (3) 0, .ref 117, .bool true, .int (429) 0, .ref 118, .none, .ref 119, .ref 120, .ref 121, .int (534) 0, .int (36) 0, .str (S "/claim/cut.py") 535]), #[]⟩
noncomputable def q123 (_ : Params) : Obj := ⟨.type "function", none, (.func { name := (S "flush"), qualname := (S "BytesIO.flush"), params := argsS (clsS 6 7), body := .stmts (bodyS (clsS 6 7)), scope := scopeS (clsS 6 7), globals := 3, closure := [], defaults := .none, kwdefaults := .none, doc := .none, pyModule := .str (S "pypng.standins") 449, annotations := none, code := .ref 122, closureTuple := .none, builtins := 0 }), #[]⟩
noncomputable def q124 (_ : Params) : Obj := ⟨.type "tuple", none, (.seq #[.str (S "octets") 537] 0), #[]⟩
noncomputable def q125 (P : Params) : Obj := ⟨.type "dict", none, (.dict #[K P (S "__module__") 475 (.str (S "pypng.standins") 449), K P (S "__firstlineno__") 479 (.int (12) 478), K P (S "__doc__") 481 (.str (docS (bodyS (topS 6))) 480), K P (S "__init__") 491 (.ref 83), K P (S "read") 500 (.ref 90), K P (S "write") 508 (.ref 97), K P (S "getvalue") 515 (.ref 104), K P (S "compress") 521 (.ref 109), K P (S "decompress") 529 (.ref 116), K P (S "flush") 536 (.ref 123), K P (S "__static_attributes__") 538 (.ref 124), K P (S "__dict__") 540 (.ref 127), K P (S "__weakref__") 542 (.ref 128)] 3), #[]⟩
noncomputable def q126 (_ : Params) : Obj := ⟨.type "type", none, (.cls { name := (S "BytesIO"), bases := [.type "object"], mro := [.ref 126, .type "object"], ns := 125, qualname := (S "BytesIO"), hasDict := true, slotNames := [], subclasses := [], abstract := false, collection := none, hasDel := false }), #[none, none, some (.str (S "BytesIO") 468), some (.str (S "BytesIO") 476), some (.builtin "object.__new__"), some (.bool true)]⟩
noncomputable def q127 (_ : Params) : Obj := ⟨.type "getset_descriptor", none, (.fields #[.str (S "__dict__") 539, .ref 126, .builtin "function.__dict__", .builtin "function.__dict__#set"]), #[]⟩
noncomputable def q128 (_ : Params) : Obj := ⟨.type "getset_descriptor", none, (.fields #[.str (S "__weakref__") 541, .ref 126, .builtin "ExceptionGroup.__weakref__", .none]), #[]⟩
noncomputable def q129 (_ : Params) : Obj := ⟨.type "super", none, (.fields #[.ref 126, .ref 126, .ref 126]), #[]⟩
noncomputable def q130 (_ : Params) : Obj := ⟨.type "builtin_function_or_method", none, (.fields #[.builtin "object.__init_subclass__", .ref 126]), #[]⟩
noncomputable def q131 (_ : Params) : Obj := ⟨.type "tuple", none, (.seq #[] 0), #[]⟩
noncomputable def q132 (_ : Params) : Obj := ⟨.type "builtin_function_or_method", none, (.fields #[.builtin "type.__prepare__", .type "type"]), #[]⟩
noncomputable def q133 (P : Params) : Obj := ⟨.type "dict", none, (.dict #[K P (S "__module__") 552 (.str (S "pypng.standins") 449), K P (S "__qualname__") 554 (.str (S "Zlib") 553), K P (S "__firstlineno__") 556 (.int (38) 555), K P (S "__doc__") 558 (.str (S "The three names of zlib that the package asks: the checksum is CRC-32, four bits at a time.") 557), K P (S "crc32") 570 (.ref 145), K P (S "compressobj") 580 (.ref 153), K P (S "decompressobj") 587 (.ref 160), K P (S "__static_attributes__") 588 (.ref 161)] 8), #[]⟩
noncomputable def q134 (_ : Params) : Obj := ⟨.type "tuple", none, (.seq #[] 0), #[]⟩
noncomputable def q135 (_ : Params) : Obj := ⟨.none, none, (.fields #[.int (41) 0, .int (4) 0, .ref 144, .int (48) 0, .int (4) 0, .ref 152, .int (51) 0, .int (4) 0, .ref 159]), #[]⟩
noncomputable def q136 (_ : Params) : Obj := ⟨.type "code", none, (.fields #[.str (S "Zlib") 547, .str (S "Zlib") 548, .str (S "/claim/cut.py") 549, .int (38) 0, .int (0) 0, .int (0) 0, .int (0) 0, .int (0) 0, .ref 134, .bool false, .int (429) 0, .ref 135, .none, .none, .none, .none, .int (550) 0, .int (38) 0, .str (S "/claim/cut.py") 551]), #[]⟩
noncomputable def q137 (_ : Params) : Obj := ⟨.type "frame", none, .plain, #[some (.ref 136), some (.ref 3), some (.ref 133), none, some (.str (S "pypng.standins") 449), none, some (.ref 0)]⟩
noncomputable def q138 (_ : Params) : Obj := ⟨.type "tuple", none, (.seq #[.int (0) 560] 0), #[]⟩
noncomputable def q139 (_ : Params) : Obj := ⟨.type "tuple", none, (.seq #[] 0), #[]⟩
noncomputable def q140 (_ : Params) : Obj := ⟨.none, none, (.fields #[]), #[]⟩
noncomputable def q141 (_ : Params) : Obj := ⟨.type "tuple", none, (.seq #[.str (S "self") 564, .str (S "octets") 565, .str (S "value") 566, .str (S "octet") 567] 0), #[]⟩
noncomputable def q142 (_ : Params) : Obj := ⟨.type "tuple", none, (.seq #[] 0), #[]⟩
noncomputable def q143 (_ : Params) : Obj := ⟨.none, none, (.func { name := (S "crc32"), qualname := (S "Zlib.crc32"), params := argsS (clsS 7 1), body := .stmts (bodyS (clsS 7 1)), scope := scopeS (clsS 7 1), globals := 0, closure := [], defaults := .none, kwdefaults := .none, doc := .none, pyModule := .none, annotations := none, code := .none, closureTuple := .none, builtins := 0 }), #[]⟩
noncomputable def q144 (_ : Params) : Obj := ⟨.type "code", none, (.fields #[.str (S "crc32") 561, .str (S "Zlib.crc32") 562, .str (S "/claim/cut.py") 563, .int (41) 0, .int (3) 0, .int (0) 0, .int (0) 0, .int (3) 0, .ref 139, .bool true, .int (429) 0, .ref 140, .none, .ref 141, .ref 142, .ref 143, .int (568) 0, .int (41) 0, .str (S "/claim/cut.py") 569]), #[]⟩
noncomputable def q145 (_ : Params) : Obj := ⟨.type "function", none, (.func { name := (S "crc32"), qualname := (S "Zlib.crc32"), params := argsS (clsS 7 1), body := .stmts (bodyS (clsS 7 1)), scope := scopeS (clsS 7 1), globals := 3, closure := [], defaults := .ref 138, kwdefaults := .none, doc := .none, pyModule := .str (S "pypng.standins") 449, annotations := none, code := .ref 144, closureTuple := .none, builtins := 0 }), #[]⟩
noncomputable def q146 (_ : Params) : Obj := ⟨.type "tuple", none, (.seq #[.int (-1) 572] 0), #[]⟩
noncomputable def q147 (_ : Params) : Obj := ⟨.type "tuple", none, (.seq #[] 0), #[]⟩
noncomputable def q148 (_ : Params) : Obj := ⟨.none, none, (.fields #[]), #[]⟩
noncomputable def q149 (_ : Params) : Obj := ⟨.type "tuple", none, (.seq #[.str (S "self") 576, .str (S "level") 577] 0), #[]⟩
noncomputable def q150 (_ : Params) : Obj := ⟨.type "tuple", none, (.seq #[] 0), #[]⟩
noncomputable def q151 (_ : Params) : Obj := ⟨.none, none, (.func { name := (S "compressobj"), qualname := (S "Zlib.compressobj"), params := argsS (clsS 7 2), body := .stmts (bodyS (clsS 7 2)), scope := scopeS (clsS 7 2), globals := 0, closure := [], defaults := .none, kwdefaults := .none, doc := .none, pyModule := .none, annotations := none, code := .none, closureTuple := .none, builtins := 0 }), #[]⟩
noncomputable def q152 (_ : Params) : Obj := ⟨.type "code", none, (.fields #[.str (S "compressobj") 573, .str (S "Zlib.compressobj") 574, .str (S "/claim/cut.py") 575, .int (48) 0, .int (2) 0, .int (0) 0, .int (0) 0, .int (3) 0, .ref 147, .bool true, .int (429) 0, .ref 148, .none, .ref 149, .ref 150, .ref 151, .int (578) 0, .int (48) 0, .str (S "/claim/cut.py") 579]), #[]⟩
noncomputable def q153 (_ : Params) : Obj := ⟨.type "function", none, (.func { name := (S "compressobj"), qualname := (S "Zlib.compressobj"), params := argsS (clsS 7 2), body := .stmts (bodyS (clsS 7 2)), scope := scopeS (clsS 7 2), globals := 3, closure := [], defaults := .ref 146, kwdefaults := .none, doc := .none, pyModule := .str (S "pypng.standins") 449, annotations := none, code := .ref 152, closureTuple := .none, builtins := 0 }), #[]⟩
noncomputable def q154 (_ : Params) : Obj := ⟨.type "tuple", none, (.seq #[] 0), #[]⟩
noncomputable def q155 (_ : Params) : Obj := ⟨.none, none, (.fields #[]), #[]⟩
noncomputable def q156 (_ : Params) : Obj := ⟨.type "tuple", none, (.seq #[.str (S "self") 584] 0), #[]⟩
noncomputable def q157 (_ : Params) : Obj := ⟨.type "tuple", none, (.seq #[] 0), #[]⟩
noncomputable def q158 (_ : Params) : Obj := ⟨.none, none, (.func { name := (S "decompressobj"), qualname := (S "Zlib.decompressobj"), params := argsS (clsS 7 3), body := .stmts (bodyS (clsS 7 3)), scope := scopeS (clsS 7 3), globals := 0, closure := [], defaults := .none, kwdefaults := .none, doc := .none, pyModule := .none, annotations := none, code := .none, closureTuple := .none, builtins := 0 }), #[]⟩
noncomputable def q159 (_ : Params) : Obj := ⟨.type "code", none, (.fields #[.str (S "decompressobj") 581, .str (S "Zlib.decompressobj") 582, .str (S "/claim/cut.py") 583, .int (51) 0, .int (1) 0, .int (0) 0, .int (0) 0, .int (3) 0, .ref 154, .bool true, .int (429) 0, .ref 155, .none, .ref 156, .ref 157, .ref 158, .int (585) 0, .int (51) 0, .str (S "/claim/cut.py") 586]), #[]⟩
noncomputable def q160 (_ : Params) : Obj := ⟨.type "function", none, (.func { name := (S "decompressobj"), qualname := (S "Zlib.decompressobj"), params := argsS (clsS 7 3), body := .stmts (bodyS (clsS 7 3)), scope := scopeS (clsS 7 3), globals := 3, closure := [], defaults := .none, kwdefaults := .none, doc := .none, pyModule := .str (S "pypng.standins") 449, annotations := none, code := .ref 159, closureTuple := .none, builtins := 0 }), #[]⟩
noncomputable def q161 (_ : Params) : Obj := ⟨.type "tuple", none, (.seq #[] 0), #[]⟩
noncomputable def q162 (P : Params) : Obj := ⟨.type "dict", none, (.dict #[K P (S "__module__") 552 (.str (S "pypng.standins") 449), K P (S "__firstlineno__") 556 (.int (38) 555), K P (S "__doc__") 558 (.str (docS (bodyS (topS 7))) 557), K P (S "crc32") 570 (.ref 145), K P (S "compressobj") 580 (.ref 153), K P (S "decompressobj") 587 (.ref 160), K P (S "__static_attributes__") 588 (.ref 161), K P (S "__dict__") 590 (.ref 164), K P (S "__weakref__") 592 (.ref 165)] 3), #[]⟩
noncomputable def q163 (_ : Params) : Obj := ⟨.type "type", none, (.cls { name := (S "Zlib"), bases := [.type "object"], mro := [.ref 163, .type "object"], ns := 162, qualname := (S "Zlib"), hasDict := true, slotNames := [], subclasses := [], abstract := false, collection := none, hasDel := false }), #[none, none, some (.str (S "Zlib") 545), some (.str (S "Zlib") 553), some (.builtin "object.__new__"), some (.bool true)]⟩
noncomputable def q164 (_ : Params) : Obj := ⟨.type "getset_descriptor", none, (.fields #[.str (S "__dict__") 589, .ref 163, .builtin "function.__dict__", .builtin "function.__dict__#set"]), #[]⟩
noncomputable def q165 (_ : Params) : Obj := ⟨.type "getset_descriptor", none, (.fields #[.str (S "__weakref__") 591, .ref 163, .builtin "ExceptionGroup.__weakref__", .none]), #[]⟩
noncomputable def q166 (_ : Params) : Obj := ⟨.type "super", none, (.fields #[.ref 163, .ref 163, .ref 163]), #[]⟩
noncomputable def q167 (_ : Params) : Obj := ⟨.type "builtin_function_or_method", none, (.fields #[.builtin "object.__init_subclass__", .ref 163]), #[]⟩
noncomputable def q168 (_ : Params) : Obj := ⟨.type "dict", none, (.dict #[] 0), #[]⟩
noncomputable def q169 (_ : Params) : Obj := ⟨.ref 163, some 168, .plain, #[]⟩
noncomputable def q170 (_ : Params) : Obj := ⟨.type "tuple", none, (.seq #[] 0), #[]⟩
noncomputable def q171 (_ : Params) : Obj := ⟨.type "builtin_function_or_method", none, (.fields #[.builtin "type.__prepare__", .type "type"]), #[]⟩
noncomputable def q172 (P : Params) : Obj := ⟨.type "dict", none, (.dict #[K P (S "__module__") 605 (.str (S "pypng.png") 596), K P (S "__qualname__") 607 (.str (S "_tuplegetter") 606), K P (S "__firstlineno__") 609 (.int (55) 608), K P (S "__init__") 618 (.ref 183), K P (S "__get__") 627 (.ref 191), K P (S "__set__") 636 (.ref 198), K P (S "__delete__") 644 (.ref 205), K P (S "__static_attributes__") 647 (.ref 206)] 8), #[]⟩
noncomputable def q173 (_ : Params) : Obj := ⟨.type "tuple", none, (.seq #[] 0), #[]⟩
noncomputable def q174 (_ : Params) : Obj := ⟨.none, none, (.fields #[.int (57) 0, .int (4) 0, .ref 182, .int (61) 0, .int (4) 0, .ref 190, .int (68) 0, .int (4) 0, .ref 197, .int (71) 0, .int (4) 0, .ref 204]), #[]⟩
noncomputable def q175 (_ : Params) : Obj := ⟨.type "code", none, (.fields #[.str (S "_tuplegetter") 600, .str (S "_tuplegetter") 601, .str (S "/claim/cut.py") 602, .int (55) 0, .int (0) 0, .int (0) 0, .int (0) 0, .int (0) 0, .ref 173, .bool false, .int (429) 0, .ref 174, .none, .none, .none, .none, .int (603) 0, .int (55) 0, .str (S "/claim/cut.py") 604]), #[]⟩
noncomputable def q176 (_ : Params) : Obj := ⟨.type "frame", none, .plain, #[some (.ref 175), some (.ref 3), some (.ref 172), none, some (.str (S "pypng.png") 596), none, some (.ref 0)]⟩
noncomputable def q177 (_ : Params) : Obj := ⟨.type "tuple", none, (.seq #[] 0), #[]⟩
noncomputable def q178 (_ : Params) : Obj := ⟨.none, none, (.fields #[]), #[]⟩
noncomputable def q179 (_ : Params) : Obj := ⟨.type "tuple", none, (.seq #[.str (S "self") 613, .str (S "index") 614, .str (S "doc") 615] 0), #[]⟩
noncomputable def q180 (_ : Params) : Obj := ⟨.type "tuple", none, (.seq #[] 0), #[]⟩
noncomputable def q181 (_ : Params) : Obj := ⟨.none, none, (.func { name := (S "__init__"), qualname := (S "_tuplegetter.__init__"), params := argsS (clsS 10 0), body := .stmts (bodyS (clsS 10 0)), scope := scopeS (clsS 10 0), globals := 0, closure := [], defaults := .none, kwdefaults := .none, doc := .none, pyModule := .none, annotations := none, code := .none, closureTuple := .none, builtins := 0 }), #[]⟩
noncomputable def q182 (_ : Params) : Obj := ⟨.type "code", none, (.fields #[.str (S "__init__") 610, .str (S "_tuplegetter.__init__") 611, .str (S "/claim/cut.py") 612, .int (57) 0, .int (3) 0, .int (0) 0, .int (0) 0, .int (3) 0, .ref 177, .bool true, .int (429) 0, .ref 178, .none, .ref 179, .ref 180, .ref 181, .int (616) 0, .int (57) 0, .str (S "/claim/cut.py") 617]), #[]⟩
noncomputable def q183 (_ : Params) : Obj := ⟨.type "function", none, (.func { name := (S "__init__"), qualname := (S "_tuplegetter.__init__"), params := argsS (clsS 10 0), body := .stmts (bodyS (clsS 10 0)), scope := scopeS (clsS 10 0), globals := 3, closure := [], defaults := .none, kwdefaults := .none, doc := .none, pyModule := .str (S "pypng.png") 596, annotations := none, code := .ref 182, closureTuple := .none, builtins := 0 }), #[]⟩
noncomputable def q184 (_ : Params) : Obj := ⟨.type "tuple", none, (.seq #[.none] 0), #[]⟩
noncomputable def q185 (_ : Params) : Obj := ⟨.type "tuple", none, (.seq #[] 0), #[]⟩
noncomputable def q186 (_ : Params) : Obj := ⟨.none, none, (.fields #[]), #[]⟩
noncomputable def q187 (_ : Params) : Obj := ⟨.type "tuple", none, (.seq #[.str (S "self") 622, .str (S "obj") 623, .str (S "objtype") 624] 0), #[]⟩
noncomputable def q188 (_ : Params) : Obj := ⟨.type "tuple", none, (.seq #[] 0), #[]⟩
noncomputable def q189 (_ : Params) : Obj := ⟨.none, none, (.func { name := (S "__get__"), qualname := (S "_tuplegetter.__get__"), params := argsS (clsS 10 1), body := .stmts (bodyS (clsS 10 1)), scope := scopeS (clsS 10 1), globals := 0, closure := [], defaults := .none, kwdefaults := .none, doc := .none, pyModule := .none, annotations := none, code := .none, closureTuple := .none, builtins := 0 }), #[]⟩
noncomputable def q190 (_ : Params) : Obj := ⟨.type "code", none, (.fields #[.str (S "__get__") 619, .str (S "_tuplegetter.__get__") 620, .str (S "/claim/cut.py") 621, .int (61) 0, .int (3) 0, .int (0) 0, .int (0) 0, .int (3) 0, .ref 185, .bool true, .int (429) 0, .ref 186, .none, .ref 187, .ref 188, .ref 189, .int (625) 0, .int (61) 0, .str (S "/claim/cut.py") 626]), #[]⟩
noncomputable def q191 (_ : Params) : Obj := ⟨.type "function", none, (.func { name := (S "__get__"), qualname := (S "_tuplegetter.__get__"), params := argsS (clsS 10 1), body := .stmts (bodyS (clsS 10 1)), scope := scopeS (clsS 10 1), globals := 3, closure := [], defaults := .ref 184, kwdefaults := .none, doc := .none, pyModule := .str (S "pypng.png") 596, annotations := none, code := .ref 190, closureTuple := .none, builtins := 0 }), #[]⟩
noncomputable def q192 (_ : Params) : Obj := ⟨.type "tuple", none, (.seq #[] 0), #[]⟩
noncomputable def q193 (_ : Params) : Obj := ⟨.none, none, (.fields #[]), #[]⟩
noncomputable def q194 (_ : Params) : Obj := ⟨.type "tuple", none, (.seq #[.str (S "self") 631, .str (S "obj") 632, .str (S "value") 633] 0), #[]⟩
noncomputable def q195 (_ : Params) : Obj := ⟨.type "tuple", none, (.seq #[] 0), #[]⟩
noncomputable def q196 (_ : Params) : Obj := ⟨.none, none, (.func { name := (S "__set__"), qualname := (S "_tuplegetter.__set__"), params := argsS (clsS 10 2), body := .stmts (bodyS (clsS 10 2)), scope := scopeS (clsS 10 2), globals := 0, closure := [], defaults := .none, kwdefaults := .none, doc := .none, pyModule := .none, annotations := none, code := .none, closureTuple := .none, builtins := 0 }), #[]⟩
noncomputable def q197 (_ : Params) : Obj := ⟨.type "code", none, (.fields #[.str (S "__set__") 628, .str (S "_tuplegetter.__set__") 629, .str (S "/claim/cut.py") 630, .int (68) 0, .int (3) 0, .int (0) 0, .int (0) 0, .int (3) 0, .ref 192, .bool true, .int (429) 0, .ref 193, .none, .ref 194, .ref 195, .ref 196, .int (634) 0, .int (68) 0, .str (S "/claim/cut.py") 635]), #[]⟩
noncomputable def q198 (_ : Params) : Obj := ⟨.type "function", none, (.func { name := (S "__set__"), qualname := (S "_tuplegetter.__set__"), params := argsS (clsS 10 2), body := .stmts (bodyS (clsS 10 2)), scope := scopeS (clsS 10 2), globals := 3, closure := [], defaults := .none, kwdefaults := .none, doc := .none, pyModule := .str (S "pypng.png") 596, annotations := none, code := .ref 197, closureTuple := .none, builtins := 0 }), #[]⟩
noncomputable def q199 (_ : Params) : Obj := ⟨.type "tuple", none, (.seq #[] 0), #[]⟩
noncomputable def q200 (_ : Params) : Obj := ⟨.none, none, (.fields #[]), #[]⟩
noncomputable def q201 (_ : Params) : Obj := ⟨.type "tuple", none, (.seq #[.str (S "self") 640, .str (S "obj") 641] 0), #[]⟩
noncomputable def q202 (_ : Params) : Obj := ⟨.type "tuple", none, (.seq #[] 0), #[]⟩
noncomputable def q203 (_ : Params) : Obj := ⟨.none, none, (.func { name := (S "__delete__"), qualname := (S "_tuplegetter.__delete__"), params := argsS (clsS 10 3), body := .stmts (bodyS (clsS 10 3)), scope := scopeS (clsS 10 3), globals := 0, closure := [], defaults := .none, kwdefaults := .none, doc := .none, pyModule := .none, annotations := none, code := .none, closureTuple := .none, builtins := 0 }), #[]⟩
noncomputable def q204 (_ : Params) : Obj := ⟨.type "code", none, (.fields #[.str (S "__delete__") 637, .str (S "_tuplegetter.__delete__") 638, .str (S "/claim/cut.py") 639, .int (71) 0, .int (2) 0, .int (0) 0, .int (0) 0, .int (3) 0, .ref 199, .bool true, .int (429) 0, .ref 200, .none, .ref 201, .ref 202, .ref 203, .int (642) 0, .int (71) 0, .str (S "/claim/cut.py") 643]), #[]⟩
noncomputable def q205 (_ : Params) : Obj := ⟨.type "function", none, (.func { name := (S "__delete__"), qualname := (S "_tuplegetter.__delete__"), params := argsS (clsS 10 3), body := .stmts (bodyS (clsS 10 3)), scope := scopeS (clsS 10 3), globals := 3, closure := [], defaults := .none, kwdefaults := .none, doc := .none, pyModule := .str (S "pypng.png") 596, annotations := none, code := .ref 204, closureTuple := .none, builtins := 0 }), #[]⟩
noncomputable def q206 (_ : Params) : Obj := ⟨.type "tuple", none, (.seq #[.str (S "__doc__") 645, .str (S "index") 646] 0), #[]⟩
noncomputable def q207 (P : Params) : Obj := ⟨.type "dict", none, (.dict #[K P (S "__module__") 605 (.str (S "pypng.png") 596), K P (S "__firstlineno__") 609 (.int (55) 608), K P (S "__init__") 618 (.ref 183), K P (S "__get__") 627 (.ref 191), K P (S "__set__") 636 (.ref 198), K P (S "__delete__") 644 (.ref 205), K P (S "__static_attributes__") 647 (.ref 206), K P (S "__dict__") 649 (.ref 209), K P (S "__weakref__") 651 (.ref 210), K P (S "__doc__") 652 (.none)] 4), #[]⟩
noncomputable def q208 (_ : Params) : Obj := ⟨.type "type", none, (.cls { name := (S "_tuplegetter"), bases := [.type "object"], mro := [.ref 208, .type "object"], ns := 207, qualname := (S "_tuplegetter"), hasDict := true, slotNames := [], subclasses := [], abstract := false, collection := none, hasDel := false }), #[none, none, some (.str (S "_tuplegetter") 598), some (.str (S "_tuplegetter") 606), some (.builtin "object.__new__"), some (.bool true)]⟩
noncomputable def q209 (_ : Params) : Obj := ⟨.type "getset_descriptor", none, (.fields #[.str (S "__dict__") 648, .ref 208, .builtin "function.__dict__", .builtin "function.__dict__#set"]), #[]⟩
noncomputable def q210 (_ : Params) : Obj := ⟨.type "getset_descriptor", none, (.fields #[.str (S "__weakref__") 650, .ref 208, .builtin "ExceptionGroup.__weakref__", .none]), #[]⟩
noncomputable def q211 (_ : Params) : Obj := ⟨.type "super", none, (.fields #[.ref 208, .ref 208, .ref 208]), #[]⟩
noncomputable def q212 (_ : Params) : Obj := ⟨.type "builtin_function_or_method", none, (.fields #[.builtin "object.__init_subclass__", .ref 208]), #[]⟩
noncomputable def q213 (_ : Params) : Obj := ⟨.type "tuple", none, (.seq #[.int (0) 657, .int (0) 658, .int (8) 659, .int (8) 660] 0), #[]⟩
noncomputable def q214 (_ : Params) : Obj := ⟨.type "tuple", none, (.seq #[.int (4) 661, .int (0) 662, .int (8) 663, .int (8) 664] 0), #[]⟩
noncomputable def q215 (_ : Params) : Obj := ⟨.type "tuple", none, (.seq #[.int (0) 665, .int (4) 666, .int (4) 667, .int (8) 668] 0), #[]⟩
noncomputable def q216 (_ : Params) : Obj := ⟨.type "tuple", none, (.seq #[.int (2) 669, .int (0) 670, .int (4) 671, .int (4) 672] 0), #[]⟩
noncomputable def q217 (_ : Params) : Obj := ⟨.type "tuple", none, (.seq #[.int (0) 673, .int (2) 674, .int (2) 675, .int (4) 676] 0), #[]⟩
noncomputable def q218 (_ : Params) : Obj := ⟨.type "tuple", none, (.seq #[.int (1) 677, .int (0) 678, .int (2) 679, .int (2) 680] 0), #[]⟩
noncomputable def q219 (_ : Params) : Obj := ⟨.type "tuple", none, (.seq #[.int (0) 681, .int (1) 682, .int (1) 683, .int (2) 684] 0), #[]⟩
noncomputable def q220 (_ : Params) : Obj := ⟨.type "tuple", none, (.seq #[.ref 213, .ref 214, .ref 215, .ref 216, .ref 217, .ref 218, .ref 219] 0), #[]⟩
noncomputable def q221 (_ : Params) : Obj := ⟨.type "tuple", none, (.seq #[] 0), #[]⟩
noncomputable def q222 (_ : Params) : Obj := ⟨.none, none, (.fields #[]), #[]⟩
noncomputable def q223 (_ : Params) : Obj := ⟨.type "tuple", none, (.seq #[.str (S "width") 689, .str (S "height") 690, .str (S "ystart") 691, .str (S "ystep") 692] 0), #[]⟩
noncomputable def q224 (_ : Params) : Obj := ⟨.type "tuple", none, (.seq #[.str (S "xstart") 693, .str (S "xstep") 694] 0), #[]⟩
noncomputable def q225 (_ : Params) : Obj := ⟨.none, none, (.func { name := (S "adam7_generate"), qualname := (S "adam7_generate"), params := argsS (topS 13), body := .stmts (bodyS (topS 13)), scope := scopeS (topS 13), globals := 0, closure := [], defaults := .none, kwdefaults := .none, doc := .none, pyModule := .none, annotations := none, code := .none, closureTuple := .none, builtins := 0 }), #[]⟩
noncomputable def q226 (_ : Params) : Obj := ⟨.type "code", none, (.fields #[.str (S "adam7_generate") 686, .str (S "adam7_generate") 687, .str (S "/claim/cut.py") 688, .int (75) 0, .int (2) 0, .int (0) 0, .int (0) 0, .int (35) 0, .ref 221, .bool true, .int (429) 0, .ref 222, .none, .ref 223, .ref 224, .ref 225, .int (695) 0, .int (75) 0, .str (S "/claim/cut.py") 696]), #[]⟩
noncomputable def q227 (_ : Params) : Obj := ⟨.type "function", none, (.func { name := (S "adam7_generate"), qualname := (S "adam7_generate"), params := argsS (topS 13), body := .stmts (bodyS (topS 13)), scope := scopeS (topS 13), globals := 3, closure := [], defaults := .none, kwdefaults := .none, doc := .str (docS (bodyS (topS 13))) 697, pyModule := .str (S "pypng.png") 596, annotations := none, code := .ref 226, closureTuple := .none, builtins := 0 }), #[]⟩
noncomputable def q228 (_ : Params) : Obj := ⟨.type "tuple", none, (.seq #[.type "tuple"] 0), #[]⟩
noncomputable def q229 (_ : Params) : Obj := ⟨.type "builtin_function_or_method", none, (.fields #[.builtin "type.__prepare__", .type "type"]), #[]⟩
noncomputable def q230 (P : Params) : Obj := ⟨.type "dict", none, (.dict #[K P (S "__module__") 706 (.str (S "pypng.png") 596), K P (S "__qualname__") 708 (.str (S "_Resolution") 707), K P (S "__firstlineno__") 710 (.int (90) 709), K P (S "__doc__") 712 (.str (S "_Resolution(x, y, unit_is_meter)") 711), K P (S "__slots__") 714 (.ref 236), K P (S "_fields") 718 (.ref 237), K P (S "_field_defaults") 719 (.ref 238), K P (S "__new__") 730 (.ref 245), K P (S "_make") 752 (.ref 254), K P (S "_replace") 763 (.ref 263), K P (S "__replace__") 764 (.ref 263), K P (S "__repr__") 772 (.ref 270), K P (S "_asdict") 779 (.ref 277), K P (S "__getnewargs__") 787 (.ref 284), K P (S "__match_args__") 791 (.ref 285), K P (S "x") 801 (.ref 287), K P (S "y") 811 (.ref 290), K P (S "unit_is_meter") 821 (.ref 293), K P (S "__static_attributes__") 822 (.ref 295), K P (S "__classcell__") 823 (.ref 231)] 20), #[]⟩
noncomputable def q231 (_ : Params) : Obj := ⟨.type "cell", none, (.cell (some (.ref 298))), #[]⟩
noncomputable def q232 (_ : Params) : Obj := ⟨.type "tuple", none, (.seq #[] 0), #[]⟩
noncomputable def q233 (_ : Params) : Obj := ⟨.none, none, (.fields #[.int (96) 0, .int (4) 0, .ref 244, .int (101) 0, .int (4) 0, .ref 251, .int (108) 0, .int (4) 0, .ref 262, .int (119) 0, .int (4) 0, .ref 269, .int (123) 0, .int (4) 0, .ref 276, .int (126) 0, .int (4) 0, .ref 283]), #[]⟩
noncomputable def q234 (_ : Params) : Obj := ⟨.type "code", none, (.fields #[.str (S "_Resolution") 701, .str (S "_Resolution") 702, .str (S "/claim/cut.py") 703, .int (90) 0, .int (0) 0, .int (0) 0, .int (0) 0, .int (0) 0, .ref 232, .bool false, .int (429) 0, .ref 233, .none, .none, .none, .none, .int (704) 0, .int (90) 0, .str (S "/claim/cut.py") 705]), #[]⟩
noncomputable def q235 (_ : Params) : Obj := ⟨.type "frame", none, .plain, #[some (.ref 234), some (.ref 3), some (.ref 230), none, some (.str (S "pypng.png") 596), none, some (.ref 0)]⟩
noncomputable def q236 (_ : Params) : Obj := ⟨.type "tuple", none, (.seq #[] 0), #[]⟩
noncomputable def q237 (_ : Params) : Obj := ⟨.type "tuple", none, (.seq #[.str (S "x") 715, .str (S "y") 716, .str (S "unit_is_meter") 717] 0), #[]⟩
noncomputable def q238 (_ : Params) : Obj := ⟨.type "dict", none, (.dict #[] 0), #[]⟩
noncomputable def q239 (_ : Params) : Obj := ⟨.type "tuple", none, (.seq #[] 0), #[]⟩
noncomputable def q240 (_ : Params) : Obj := ⟨.none, none, (.fields #[]), #[]⟩
noncomputable def q241 (_ : Params) : Obj := ⟨.type "tuple", none, (.seq #[.str (S "_cls") 723, .str (S "x") 724, .str (S "y") 725, .str (S "unit_is_meter") 726] 0), #[]⟩
noncomputable def q242 (_ : Params) : Obj := ⟨.type "tuple", none, (.seq #[] 0), #[]⟩
noncomputable def q243 (_ : Params) : Obj := ⟨.none, none, (.func { name := (S "__new__"), qualname := (S "_Resolution.__new__"), params := argsS (clsS 14 4), body := .stmts (bodyS (clsS 14 4)), scope := scopeS (clsS 14 4), globals := 0, closure := [], defaults := .none, kwdefaults := .none, doc := .none, pyModule := .none, annotations := none, code := .none, closureTuple := .none, builtins := 0 }), #[]⟩
noncomputable def q244 (_ : Params) : Obj := ⟨.type "code", none, (.fields #[.str (S "__new__") 720, .str (S "_Resolution.__new__") 721, .str (S "/claim/cut.py") 722, .int (96) 0, .int (4) 0, .int (0) 0, .int (0) 0, .int (3) 0, .ref 239, .bool true, .int (429) 0, .ref 240, .none, .ref 241, .ref 242, .ref 243, .int (727) 0, .int (96) 0, .str (S "/claim/cut.py") 728]), #[]⟩
noncomputable def q245 (_ : Params) : Obj := ⟨.type "function", none, (.func { name := (S "__new__"), qualname := (S "_Resolution.__new__"), params := argsS (clsS 14 4), body := .stmts (bodyS (clsS 14 4)), scope := scopeS (clsS 14 4), globals := 3, closure := [], defaults := .none, kwdefaults := .none, doc := .str (docS (bodyS (clsS 14 4))) 729, pyModule := .str (S "pypng.png") 596, annotations := none, code := .ref 244, closureTuple := .none, builtins := 0 }), #[]⟩
noncomputable def q246 (_ : Params) : Obj := ⟨.type "tuple", none, (.seq #[] 0), #[]⟩
noncomputable def q247 (_ : Params) : Obj := ⟨.none, none, (.fields #[]), #[]⟩
noncomputable def q248 (_ : Params) : Obj := ⟨.type "tuple", none, (.seq #[.str (S "cls") 734, .str (S "iterable") 735, .str (S "result") 736] 0), #[]⟩
noncomputable def q249 (_ : Params) : Obj := ⟨.type "tuple", none, (.seq #[] 0), #[]⟩
noncomputable def q250 (_ : Params) : Obj := ⟨.none, none, (.func { name := (S "_make"), qualname := (S "_Resolution._make"), params := argsS (clsS 14 5), body := .stmts (bodyS (clsS 14 5)), scope := scopeS (clsS 14 5), globals := 0, closure := [], defaults := .none, kwdefaults := .none, doc := .none, pyModule := .none, annotations := none, code := .none, closureTuple := .none, builtins := 0 }), #[]⟩
noncomputable def q251 (_ : Params) : Obj := ⟨.type "code", none, (.fields #[.str (S "_make") 731, .str (S "_Resolution._make") 732, .str (S "/claim/cut.py") 733, .int (100) 0, .int (2) 0, .int (0) 0, .int (0) 0, .int (3) 0, .ref 246, .bool true, .int (429) 0, .ref 247, .none, .ref 248, .ref 249, .ref 250, .int (737) 0, .int (100) 0, .str (S "/claim/cut.py") 738]), #[]⟩
noncomputable def q252 (_ : Params) : Obj := ⟨.type "function", none, (.func { name := (S "_make"), qualname := (S "_Resolution._make"), params := argsS (clsS 14 5), body := .stmts (bodyS (clsS 14 5)), scope := scopeS (clsS 14 5), globals := 3, closure := [], defaults := .none, kwdefaults := .none, doc := .str (docS (bodyS (clsS 14 5))) 739, pyModule := .str (S "pypng.png") 596, annotations := some 255, code := .ref 251, closureTuple := .none, builtins := 0 }), #[]⟩
noncomputable def q253 (P : Params) : Obj := ⟨.type "dict", none, (.dict #[K P (S "__module__") 741 (.str (S "pypng.png") 596), K P (S "__name__") 744 (.str (S "_make") 743), K P (S "__qualname__") 747 (.str (S "_Resolution._make") 746), K P (S "__doc__") 749 (.str (S "Make a new _Resolution object from a sequence or iterable") 739), K P (S "__annotations__") 751 (.ref 255)] 5), #[]⟩
noncomputable def q254 (_ : Params) : Obj := ⟨.type "classmethod", some 253, (.fields #[.ref 252, .bool false]), #[]⟩
noncomputable def q255 (_ : Params) : Obj := ⟨.type "dict", none, (.dict #[] 0), #[]⟩
noncomputable def q256 (_ : Params) : Obj := ⟨.type "tuple", none, (.seq #[.ref 231] 0), #[]⟩
noncomputable def q257 (_ : Params) : Obj := ⟨.type "tuple", none, (.seq #[.str (S "__class__") 756] 0), #[]⟩
noncomputable def q258 (_ : Params) : Obj := ⟨.none, none, (.fields #[]), #[]⟩
noncomputable def q259 (_ : Params) : Obj := ⟨.type "tuple", none, (.seq #[.str (S "self") 757, .str (S "kwds") 758, .str (S "result") 759] 0), #[]⟩
noncomputable def q260 (_ : Params) : Obj := ⟨.type "tuple", none, (.seq #[] 0), #[]⟩
noncomputable def q261 (_ : Params) : Obj := ⟨.none, none, (.func { name := (S "_replace"), qualname := (S "_Resolution._replace"), params := argsS (clsS 14 6), body := .stmts (bodyS (clsS 14 6)), scope := scopeS (clsS 14 6), globals := 0, closure := [], defaults := .none, kwdefaults := .none, doc := .none, pyModule := .none, annotations := none, code := .none, closureTuple := .none, builtins := 0 }), #[]⟩
noncomputable def q262 (_ : Params) : Obj := ⟨.type "code", none, (.fields #[.str (S "_replace") 753, .str (S "_Resolution._replace") 754, .str (S "/claim/cut.py") 755, .int (108) 0, .int (1) 0, .int (1) 0, .int (0) 0, .int (11) 0, .ref 257, .bool true, .int (429) 0, .ref 258, .none, .ref 259, .ref 260, .ref 261, .int (760) 0, .int (108) 0, .str (S "/claim/cut.py") 761]), #[]⟩
noncomputable def q263 (_ : Params) : Obj := ⟨.type "function", none, (.func { name := (S "_replace"), qualname := (S "_Resolution._replace"), params := argsS (clsS 14 6), body := .stmts (bodyS (clsS 14 6)), scope := scopeS (clsS 14 6), globals := 3, closure := [((S "__class__"), 231)], defaults := .none, kwdefaults := .none, doc := .str (docS (bodyS (clsS 14 6))) 762, pyModule := .str (S "pypng.png") 596, annotations := none, code := .ref 262, closureTuple := .ref 256, builtins := 0 }), #[]⟩
noncomputable def q264 (_ : Params) : Obj := ⟨.type "tuple", none, (.seq #[] 0), #[]⟩
noncomputable def q265 (_ : Params) : Obj := ⟨.none, none, (.fields #[]), #[]⟩
noncomputable def q266 (_ : Params) : Obj := ⟨.type "tuple", none, (.seq #[.str (S "self") 768] 0), #[]⟩
noncomputable def q267 (_ : Params) : Obj := ⟨.type "tuple", none, (.seq #[] 0), #[]⟩
noncomputable def q268 (_ : Params) : Obj := ⟨.none, none, (.func { name := (S "__repr__"), qualname := (S "_Resolution.__repr__"), params := argsS (clsS 14 8), body := .stmts (bodyS (clsS 14 8)), scope := scopeS (clsS 14 8), globals := 0, closure := [], defaults := .none, kwdefaults := .none, doc := .none, pyModule := .none, annotations := none, code := .none, closureTuple := .none, builtins := 0 }), #[]⟩
noncomputable def q269 (_ : Params) : Obj := ⟨.type "code", none, (.fields #[.str (S "__repr__") 765, .str (S "_Resolution.__repr__") 766, .str (S "/claim/cut.py") 767, .int (119) 0, .int (1) 0, .int (0) 0, .int (0) 0, .int (3) 0, .ref 264, .bool true, .int (429) 0, .ref 265, .none, .ref 266, .ref 267, .ref 268, .int (769) 0, .int (119) 0, .str (S "/claim/cut.py") 770]), #[]⟩
noncomputable def q270 (_ : Params) : Obj := ⟨.type "function", none, (.func { name := (S "__repr__"), qualname := (S "_Resolution.__repr__"), params := argsS (clsS 14 8), body := .stmts (bodyS (clsS 14 8)), scope := scopeS (clsS 14 8), globals := 3, closure := [], defaults := .none, kwdefaults := .none, doc := .str (docS (bodyS (clsS 14 8))) 771, pyModule := .str (S "pypng.png") 596, annotations := none, code := .ref 269, closureTuple := .none, builtins := 0 }), #[]⟩
noncomputable def q271 (_ : Params) : Obj := ⟨.type "tuple", none, (.seq #[] 0), #[]⟩
noncomputable def q272 (_ : Params) : Obj := ⟨.none, none, (.fields #[]), #[]⟩
noncomputable def q273 (_ : Params) : Obj := ⟨.type "tuple", none, (.seq #[.str (S "self") 776] 0), #[]⟩
noncomputable def q274 (_ : Params) : Obj := ⟨.type "tuple", none, (.seq #[] 0), #[]⟩
noncomputable def q275 (_ : Params) : Obj := ⟨.none, none, (.func { name := (S "_asdict"), qualname := (S "_Resolution._asdict"), params := argsS (clsS 14 9), body := .stmts (bodyS (clsS 14 9)), scope := scopeS (clsS 14 9), globals := 0, closure := [], defaults := .none, kwdefaults := .none, doc := .none, pyModule := .none, annotations := none, code := .none, closureTuple := .none, builtins := 0 }), #[]⟩
noncomputable def q276 (_ : Params) : Obj := ⟨.type "code", none, (.fields #[.str (S "_asdict") 773, .str (S "_Resolution._asdict") 774, .str (S "/claim/cut.py") 775, .int (123) 0, .int (1) 0, .int (0) 0, .int (0) 0, .int (3) 0, .ref 271, .bool true, .int (429) 0, .ref 272, .none, .ref 273, .ref 274, .ref 275, .int (777) 0, .int (123) 0, .str (S "/claim/cut.py") 778]), #[]⟩
noncomputable def q277 (_ : Params) : Obj := ⟨.type "function", none, (.func { name := (S "_asdict"), qualname := (S "_Resolution._asdict"), params := argsS (clsS 14 9), body := .stmts (bodyS (clsS 14 9)), scope := scopeS (clsS 14 9), globals := 3, closure := [], defaults := .none, kwdefaults := .none, doc := .none, pyModule := .str (S "pypng.png") 596, annotations := none, code := .ref 276, closureTuple := .none, builtins := 0 }), #[]⟩
noncomputable def q278 (_ : Params) : Obj := ⟨.type "tuple", none, (.seq #[] 0), #[]⟩
noncomputable def q279 (_ : Params) : Obj := ⟨.none, none, (.fields #[]), #[]⟩
noncomputable def q280 (_ : Params) : Obj := ⟨.type "tuple", none, (.seq #[.str (S "self") 783] 0), #[]⟩
noncomputable def q281 (_ : Params) : Obj := ⟨.type "tuple", none, (.seq #[] 0), #[]⟩
noncomputable def q282 (_ : Params) : Obj := ⟨.none, none, (.func { name := (S "__getnewargs__"), qualname := (S "_Resolution.__getnewargs__"), params := argsS (clsS 14 10), body := .stmts (bodyS (clsS 14 10)), scope := scopeS (clsS 14 10), globals := 0, closure := [], defaults := .none, kwdefaults := .none, doc := .none, pyModule := .none, annotations := none, code := .none, closureTuple := .none, builtins := 0 }), #[]⟩
noncomputable def q283 (_ : Params) : Obj := ⟨.type "code", none, (.fields #[.str (S "__getnewargs__") 780, .str (S "_Resolution.__getnewargs__") 781, .str (S "/claim/cut.py") 782, .int (126) 0, .int (1) 0, .int (0) 0, .int (0) 0, .int (3) 0, .ref 278, .bool true, .int (429) 0, .ref 279, .none, .ref 280, .ref 281, .ref 282, .int (784) 0, .int (126) 0, .str (S "/claim/cut.py") 785]), #[]⟩
noncomputable def q284 (_ : Params) : Obj := ⟨.type "function", none, (.func { name := (S "__getnewargs__"), qualname := (S "_Resolution.__getnewargs__"), params := argsS (clsS 14 10), body := .stmts (bodyS (clsS 14 10)), scope := scopeS (clsS 14 10), globals := 3, closure := [], defaults := .none, kwdefaults := .none, doc := .str (docS (bodyS (clsS 14 10))) 786, pyModule := .str (S "pypng.png") 596, annotations := none, code := .ref 283, closureTuple := .none, builtins := 0 }), #[]⟩
noncomputable def q285 (_ : Params) : Obj := ⟨.type "tuple", none, (.seq #[.str (S "x") 788, .str (S "y") 789, .str (S "unit_is_meter") 790] 0), #[]⟩
noncomputable def q286 (P : Params) : Obj := ⟨.type "dict", none, (.dict #[K P (S "index") 798 (.int (0) 792), K P (S "__doc__") 800 (.str (S "Alias for field number 0") 793)] 2), #[]⟩
noncomputable def q287 (_ : Params) : Obj := ⟨.ref 208, some 286, .plain, #[]⟩
noncomputable def q288 (P : Params) : Obj := ⟨.type "frame", none, (.dict #[K P (S "self") 794 (.ref 287), K P (S "index") 795 (.int (0) 792), K P (S "doc") 796 (.str (S "Alias for field number 0") 793)] 3), #[]⟩
noncomputable def q289 (P : Params) : Obj := ⟨.type "dict", none, (.dict #[K P (S "index") 808 (.int (1) 802), K P (S "__doc__") 810 (.str (S "Alias for field number 1") 803)] 2), #[]⟩
noncomputable def q290 (_ : Params) : Obj := ⟨.ref 208, some 289, .plain, #[]⟩
noncomputable def q291 (P : Params) : Obj := ⟨.type "frame", none, (.dict #[K P (S "self") 804 (.ref 290), K P (S "index") 805 (.int (1) 802), K P (S "doc") 806 (.str (S "Alias for field number 1") 803)] 3), #[]⟩
noncomputable def q292 (P : Params) : Obj := ⟨.type "dict", none, (.dict #[K P (S "index") 818 (.int (2) 812), K P (S "__doc__") 820 (.str (S "Alias for field number 2") 813)] 2), #[]⟩
noncomputable def q293 (_ : Params) : Obj := ⟨.ref 208, some 292, .plain, #[]⟩
noncomputable def q294 (P : Params) : Obj := ⟨.type "frame", none, (.dict #[K P (S "self") 814 (.ref 293), K P (S "index") 815 (.int (2) 812), K P (S "doc") 816 (.str (S "Alias for field number 2") 813)] 3), #[]⟩
noncomputable def q295 (_ : Params) : Obj := ⟨.type "tuple", none, (.seq #[] 0), #[]⟩
noncomputable def q296 (_ : Params) : Obj := ⟨.type "list", none, (.seq #[] 0), #[]⟩
noncomputable def q297 (P : Params) : Obj := ⟨.type "dict", none, (.dict #[K P (S "__module__") 706 (.str (S "pypng.png") 596), K P (S "__firstlineno__") 710 (.int (90) 709), K P (S "__doc__") 712 (.str (docS (bodyS (topS 14))) 711), K P (S "__slots__") 714 (.ref 236), K P (S "_fields") 718 (.ref 237), K P (S "_field_defaults") 719 (.ref 238), K P (S "__new__") 730 (.ref 299), K P (S "_make") 752 (.ref 254), K P (S "_replace") 763 (.ref 263), K P (S "__replace__") 764 (.ref 263), K P (S "__repr__") 772 (.ref 270), K P (S "_asdict") 779 (.ref 277), K P (S "__getnewargs__") 787 (.ref 284), K P (S "__match_args__") 791 (.ref 285), K P (S "x") 801 (.ref 287), K P (S "y") 811 (.ref 290), K P (S "unit_is_meter") 821 (.ref 293), K P (S "__static_attributes__") 822 (.ref 295)] 2), #[]⟩
noncomputable def q298 (_ : Params) : Obj := ⟨.type "type", none, (.cls { name := (S "_Resolution"), bases := [.type "tuple"], mro := [.ref 298, .type "tuple", .type "object"], ns := 297, qualname := (S "_Resolution"), hasDict := false, slotNames := [], subclasses := [], abstract := false, collection := none, hasDel := false }), #[some (.ref 228), none, some (.str (S "_Resolution") 699), some (.str (S "_Resolution") 707), some (.none), some (.bool false)]⟩
noncomputable def q299 (_ : Params) : Obj := ⟨.type "staticmethod", none, (.fields #[.ref 245]), #[]⟩
noncomputable def q300 (_ : Params) : Obj := ⟨.type "super", none, (.fields #[.ref 298, .ref 298, .ref 298]), #[]⟩
noncomputable def q301 (_ : Params) : Obj := ⟨.type "builtin_function_or_method", none, (.fields #[.builtin "object.__init_subclass__", .ref 298]), #[]⟩
noncomputable def q2_1 (P : Params) : Obj := ⟨.none, none, (.dict #[K P (S "\x69mport.loaded._operator") 185 (.bool true), K P (S "class._frozen_importlib.BuiltinImporter") 187 (.ref 15), K P (S "watched.\x69mport") 208 (.ref 19), K P (S "class._frozen_importlib.ModuleSpec") 218 (.ref 23), K P (S "sys.modules.booked-epoch") 247 (.int (4) 0), K P (S "sys.modules.landed._operator") 248 (.bool true), K P (S "\x69mport.later-laid._operator") 312 (.bool true), K P (S "watched.library") 314 (.ref 28), K P (S "watched.library-objects") 0 (.str (S "\x0d\x1f") 0), K P (S "watched.library-deep._operator") 315 (.str (S "\x04\x00\x00\x0c\x04\x00\x00\x0c\x04\x00\x00\x03\x04\x00\x00\x0c\x08\x04dict\x02") 0), K P (S "\x69mport.loaded._struct") 327 (.bool true), K P (S "class._frozen_importlib_external._LoaderBasics") 332 (.ref 34), K P (S "class._frozen_importlib_external.FileLoader") 348 (.ref 39), K P (S "class._frozen_importlib_external.ExtensionFileLoader") 369 (.ref 44), K P (S "class.struct.error") 416 (.type "struct.error"), K P (S "\x69mport.later-laid._struct") 418 (.bool true), K P (S "type.__subclasses__.Exception.0") 866 (.int (332) 0), K P (S "type.__subclasses__.Exception.n") 867 (.int (1) 0)] 18), #[]⟩
noncomputable def q3_2 (P : Params) : Obj := ⟨.type "dict", none, (.dict #[K P (S "__name__") 165 (.str (S "law_ar0037_04") 1425), K P (S "__doc__") 166 (.none), K P (S "__package__") 167 (.none), K P (S "__loader__") 168 (.builtin "__main__.__loader__#opaque"), K P (S "__spec__") 169 (.none), K P (S "__annotations__") 170 (.ref 6), K P (S "__builtins__") 171 (.ref 4), K P (S "__file__") 173 (.str (S "/claim/cut.py") 172), K P (S "__cached__") 174 (.none), K P (S "add") 321 (.builtin "_operator.add"), K P (S "pack") 425 (.builtin "_struct.pack"), K P (S "unpack") 428 (.builtin "_struct.unpack"), K P (S "_wall") 441 (.ref 60), K P (S "_pe_name") 448 (.ref 67), K P (S "CRC") 467 (.ref 68), K P (S "BytesIO") 544 (.ref 126), K P (S "Zlib") 594 (.ref 163), K P (S "zlib") 595 (.ref 169), K P (S "_tuplegetter") 654 (.ref 208), K P (S "signature") 656 (.bytes #[137, 80, 78, 71, 13, 10, 26, 10] 655), K P (S "adam7") 685 (.ref 220), K P (S "adam7_generate") 698 (.ref 227), K P (S "_Resolution") 826 (.ref 298), K P (S "Resolution") 827 (.ref 298), K P (S "group") 835 (.ref 308), K P (S "isarray") 842 (.ref 315), K P (S "Error") 869 (.ref 332), K P (S "FormatError") 887 (.ref 345), K P (S "ProtocolError") 905 (.ref 357), K P (S "ChunkError") 921 (.ref 369), K P (S "write_chunk") 933 (.ref 379), K P (S "write_chunks") 943 (.ref 386), K P (S "_pull") 952 (.ref 393), K P (S "chain") 1025 (.ref 436), K P (S "warn") 1035 (.ref 447), K P (S "Reader") 1347 (.ref 651), K P (S "decompress") 1357 (.ref 662), K P (S "undo_filter_sub") 1372 (.ref 669), K P (S "undo_filter_up") 1386 (.ref 676), K P (S "undo_filter_average") 1402 (.ref 683), K P (S "undo_filter_paeth") 1424 (.ref 690), K P (S "_law_sum") 1437 (.ref 697), K P (S "law") 1443 (.ref 702)] 43), #[]⟩
noncomputable def q51_2 (_ : Params) : Obj := ⟨.none, none, (.fields #[.int (3) 0, .int (0) 0, .ref 59, .int (6) 0, .int (0) 0, .ref 66, .int (12) 0, .int (0) 0, .ref 74, .int (38) 0, .int (0) 0, .ref 136, .int (55) 0, .int (0) 0, .ref 175, .int (75) 0, .int (0) 0, .ref 226, .int (90) 0, .int (0) 0, .ref 234, .int (134) 0, .int (0) 0, .ref 307, .int (136) 0, .int (0) 0, .ref 314, .int (138) 0, .int (0) 0, .ref 321, .int (142) 0, .int (0) 0, .ref 341, .int (148) 0, .int (0) 0, .ref 353, .int (153) 0, .int (0) 0, .ref 365, .int (155) 0, .int (0) 0, .ref 378, .int (168) 0, .int (0) 0, .ref 385, .int (174) 0, .int (0) 0, .ref 392, .int (179) 0, .int (0) 0, .ref 399, .int (229) 0, .int (0) 0, .ref 446, .int (232) 0, .int (0) 0, .ref 453, .int (630) 0, .int (0) 0, .ref 661, .int (640) 0, .int (0) 0, .ref 668, .int (648) 0, .int (0) 0, .ref 675, .int (654) 0, .int (0) 0, .ref 682, .int (666) 0, .int (0) 0, .ref 689, .int (690) 0, .int (0) 0, .ref 696, .int (699) 0, .int (0) 0, .ref 701]), #[]⟩
noncomputable def q302 (_ : Params) : Obj := ⟨.type "tuple", none, (.seq #[] 0), #[]⟩
noncomputable def q303 (_ : Params) : Obj := ⟨.none, none, (.fields #[]), #[]⟩
noncomputable def q304 (_ : Params) : Obj := ⟨.type "tuple", none, (.seq #[.str (S "s") 831, .str (S "n") 832] 0), #[]⟩
noncomputable def q305 (_ : Params) : Obj := ⟨.type "tuple", none, (.seq #[] 0), #[]⟩
noncomputable def q306 (_ : Params) : Obj := ⟨.none, none, (.func { name := (S "group"), qualname := (S "group"), params := argsS (topS 16), body := .stmts (bodyS (topS 16)), scope := scopeS (topS 16), globals := 0, closure := [], defaults := .none, kwdefaults := .none, doc := .none, pyModule := .none, annotations := none, code := .none, closureTuple := .none, builtins := 0 }), #[]⟩
noncomputable def q307 (_ : Params) : Obj := ⟨.type "code", none, (.fields #[.str (S "group") 828, .str (S "group") 829, .str (S "/claim/cut.py") 830, .int (134) 0, .int (2) 0, .int (0) 0, .int (0) 0, .int (3) 0, .ref 302, .bool true, .int (429) 0, .ref 303, .none, .ref 304, .ref 305, .ref 306, .int (833) 0, .int (134) 0, .str (S "/claim/cut.py") 834]), #[]⟩
noncomputable def q308 (_ : Params) : Obj := ⟨.type "function", none, (.func { name := (S "group"), qualname := (S "group"), params := argsS (topS 16), body := .stmts (bodyS (topS 16)), scope := scopeS (topS 16), globals := 3, closure := [], defaults := .none, kwdefaults := .none, doc := .none, pyModule := .str (S "pypng.png") 596, annotations := none, code := .ref 307, closureTuple := .none, builtins := 0 }), #[]⟩
noncomputable def q309 (_ : Params) : Obj := ⟨.type "tuple", none, (.seq #[] 0), #[]⟩
noncomputable def q310 (_ : Params) : Obj := ⟨.none, none, (.fields #[]), #[]⟩
noncomputable def q311 (_ : Params) : Obj := ⟨.type "tuple", none, (.seq #[.str (S "x") 839] 0), #[]⟩
noncomputable def q312 (_ : Params) : Obj := ⟨.type "tuple", none, (.seq #[] 0), #[]⟩
noncomputable def q313 (_ : Params) : Obj := ⟨.none, none, (.func { name := (S "isarray"), qualname := (S "isarray"), params := argsS (topS 17), body := .stmts (bodyS (topS 17)), scope := scopeS (topS 17), globals := 0, closure := [], defaults := .none, kwdefaults := .none, doc := .none, pyModule := .none, annotations := none, code := .none, closureTuple := .none, builtins := 0 }), #[]⟩
noncomputable def q314 (_ : Params) : Obj := ⟨.type "code", none, (.fields #[.str (S "isarray") 836, .str (S "isarray") 837, .str (S "/claim/cut.py") 838, .int (136) 0, .int (1) 0, .int (0) 0, .int (0) 0, .int (3) 0, .ref 309, .bool true, .int (429) 0, .ref 310, .none, .ref 311, .ref 312, .ref 313, .int (840) 0, .int (136) 0, .str (S "/claim/cut.py") 841]), #[]⟩
noncomputable def q315 (_ : Params) : Obj := ⟨.type "function", none, (.func { name := (S "isarray"), qualname := (S "isarray"), params := argsS (topS 17), body := .stmts (bodyS (topS 17)), scope := scopeS (topS 17), globals := 3, closure := [], defaults := .none, kwdefaults := .none, doc := .none, pyModule := .str (S "pypng.png") 596, annotations := none, code := .ref 314, closureTuple := .none, builtins := 0 }), #[]⟩
noncomputable def q316 (_ : Params) : Obj := ⟨.type "tuple", none, (.seq #[.type "Exception"] 0), #[]⟩
noncomputable def q317 (_ : Params) : Obj := ⟨.type "builtin_function_or_method", none, (.fields #[.builtin "type.__prepare__", .type "type"]), #[]⟩
noncomputable def q318 (P : Params) : Obj := ⟨.type "dict", none, (.dict #[K P (S "__module__") 850 (.str (S "pypng.png") 596), K P (S "__qualname__") 852 (.str (S "Error") 851), K P (S "__firstlineno__") 854 (.int (138) 853), K P (S "__str__") 861 (.ref 329), K P (S "__static_attributes__") 862 (.ref 330)] 5), #[]⟩
noncomputable def q319 (_ : Params) : Obj := ⟨.type "tuple", none, (.seq #[] 0), #[]⟩
noncomputable def q320 (_ : Params) : Obj := ⟨.none, none, (.fields #[.int (140) 0, .int (4) 0, .ref 328]), #[]⟩
noncomputable def q321 (_ : Params) : Obj := ⟨.type "code", none, (.fields #[.str (S "Error") 845, .str (S "Error") 846, .str (S "/claim/cut.py") 847, .int (138) 0, .int (0) 0, .int (0) 0, .int (0) 0, .int (0) 0, .ref 319, .bool false, .int (429) 0, .ref 320, .none, .none, .none, .none, .int (848) 0, .int (138) 0, .str (S "/claim/cut.py") 849]), #[]⟩
noncomputable def q322 (_ : Params) : Obj := ⟨.type "frame", none, .plain, #[some (.ref 321), some (.ref 3), some (.ref 318), none, some (.str (S "pypng.png") 596), none, some (.ref 0)]⟩
noncomputable def q323 (_ : Params) : Obj := ⟨.type "tuple", none, (.seq #[] 0), #[]⟩
noncomputable def q324 (_ : Params) : Obj := ⟨.none, none, (.fields #[]), #[]⟩
noncomputable def q325 (_ : Params) : Obj := ⟨.type "tuple", none, (.seq #[.str (S "self") 858] 0), #[]⟩
noncomputable def q326 (_ : Params) : Obj := ⟨.type "tuple", none, (.seq #[] 0), #[]⟩
noncomputable def q327 (_ : Params) : Obj := ⟨.none, none, (.func { name := (S "__str__"), qualname := (S "Error.__str__"), params := argsS (clsS 18 0), body := .stmts (bodyS (clsS 18 0)), scope := scopeS (clsS 18 0), globals := 0, closure := [], defaults := .none, kwdefaults := .none, doc := .none, pyModule := .none, annotations := none, code := .none, closureTuple := .none, builtins := 0 }), #[]⟩
noncomputable def q328 (_ : Params) : Obj := ⟨.type "code", none, (.fields #[.str (S "__str__") 855, .str (S "Error.__str__") 856, .str (S "/claim/cut.py") 857, .int (140) 0, .int (1) 0, .int (0) 0, .int (0) 0, .int (3) 0, .ref 323, .bool true, .int (429) 0, .ref 324, .none, .ref 325, .ref 326, .ref 327, .int (859) 0, .int (140) 0, .str (S "/claim/cut.py") 860]), #[]⟩
noncomputable def q329 (_ : Params) : Obj := ⟨.type "function", none, (.func { name := (S "__str__"), qualname := (S "Error.__str__"), params := argsS (clsS 18 0), body := .stmts (bodyS (clsS 18 0)), scope := scopeS (clsS 18 0), globals := 3, closure := [], defaults := .none, kwdefaults := .none, doc := .none, pyModule := .str (S "pypng.png") 596, annotations := none, code := .ref 328, closureTuple := .none, builtins := 0 }), #[]⟩
noncomputable def q330 (_ : Params) : Obj := ⟨.type "tuple", none, (.seq #[] 0), #[]⟩
noncomputable def q331 (P : Params) : Obj := ⟨.type "dict", none, (.dict #[K P (S "__module__") 850 (.str (S "pypng.png") 596), K P (S "__firstlineno__") 854 (.int (138) 853), K P (S "__str__") 861 (.ref 329), K P (S "__static_attributes__") 862 (.ref 330), K P (S "__weakref__") 864 (.ref 333), K P (S "__doc__") 865 (.none)] 3), #[]⟩
noncomputable def q332 (_ : Params) : Obj := ⟨.type "type", none, (.cls { name := (S "Error"), bases := [.type "Exception"], mro := [.ref 332, .type "Exception", .type "BaseException", .type "object"], ns := 331, qualname := (S "Error"), hasDict := true, slotNames := [], subclasses := [.ref 345, .ref 357], abstract := false, collection := none, hasDel := false }), #[some (.ref 316), none, some (.str (S "Error") 843), some (.str (S "Error") 851), some (.builtin "Exception.__new__"), some (.bool true)]⟩
noncomputable def q333 (_ : Params) : Obj := ⟨.type "getset_descriptor", none, (.fields #[.str (S "__weakref__") 863, .ref 332, .builtin "ExceptionGroup.__weakref__", .none]), #[]⟩
noncomputable def q334 (_ : Params) : Obj := ⟨.type "super", none, (.fields #[.ref 332, .ref 332, .ref 332]), #[]⟩
noncomputable def q335 (_ : Params) : Obj := ⟨.type "builtin_function_or_method", none, (.fields #[.builtin "object.__init_subclass__", .ref 332]), #[]⟩
noncomputable def q336 (_ : Params) : Obj := ⟨.type "tuple", none, (.seq #[.ref 332] 0), #[]⟩
noncomputable def q337 (_ : Params) : Obj := ⟨.type "builtin_function_or_method", none, (.fields #[.builtin "type.__prepare__", .type "type"]), #[]⟩
noncomputable def q338 (P : Params) : Obj := ⟨.type "dict", none, (.dict #[K P (S "__module__") 877 (.str (S "pypng.png") 596), K P (S "__qualname__") 879 (.str (S "FormatError") 878), K P (S "__firstlineno__") 881 (.int (142) 880), K P (S "__doc__") 883 (.str ⟨#[10, 80, 114, 111, 98, 108, 101, 109, 32, 119, 105, 116, 104, 32, 105, 110, 112, 117, 116, 32, 102, 105, 108, 101, 32, 102, 111, 114, 109, 97, 116, 46, 10, 73, 110, 32, 111, 116, 104, 101, 114, 32, 119, 111, 114, 100, 115, 44, 32, 80, 78, 71, 32, 102, 105, 108, 101, 32, 100, 111, 101, 115, 32, 110, 111, 116, 32, 99, 111, 110, 102, 111, 114, 109, 32, 116, 111, 10, 116, 104, 101, 32, 115, 112, 101, 99, 105, 102, 105, 99, 97, 116, 105, 111, 110, 32, 105, 110, 32, 115, 111, 109, 101, 32, 119, 97, 121, 32, 97, 110, 100, 32, 105, 115, 32, 105, 110, 118, 97, 108, 105, 100, 46, 10]⟩ 882), K P (S "__static_attributes__") 885 (.ref 343)] 5), #[]⟩
noncomputable def q339 (_ : Params) : Obj := ⟨.type "tuple", none, (.seq #[] 0), #[]⟩
noncomputable def q340 (_ : Params) : Obj := ⟨.none, none, (.fields #[]), #[]⟩
noncomputable def q341 (_ : Params) : Obj := ⟨.type "code", none, (.fields #[.str (S "FormatError") 872, .str (S "FormatError") 873, .str (S "/claim/cut.py") 874, .int (142) 0, .int (0) 0, .int (0) 0, .int (0) 0, .int (0) 0, .ref 339, .bool false, .int (429) 0, .ref 340, .none, .none, .none, .none, .int (875) 0, .int (142) 0, .str (S "/claim/cut.py") 876]), #[]⟩
noncomputable def q342 (_ : Params) : Obj := ⟨.type "frame", none, .plain, #[some (.ref 341), some (.ref 3), some (.ref 338), none, some (.str (S "pypng.png") 596), none, some (.ref 0)]⟩
noncomputable def q343 (_ : Params) : Obj := ⟨.type "tuple", none, (.seq #[] 0), #[]⟩
noncomputable def q344 (P : Params) : Obj := ⟨.type "dict", none, (.dict #[K P (S "__module__") 877 (.str (S "pypng.png") 596), K P (S "__firstlineno__") 881 (.int (142) 880), K P (S "__doc__") 883 (.str (docS (bodyS (topS 19))) 882), K P (S "__static_attributes__") 885 (.ref 343)] 1), #[]⟩
noncomputable def q345 (_ : Params) : Obj := ⟨.type "type", none, (.cls { name := (S "FormatError"), bases := [.ref 332], mro := [.ref 345, .ref 332, .type "Exception", .type "BaseException", .type "object"], ns := 344, qualname := (S "FormatError"), hasDict := true, slotNames := [], subclasses := [.ref 369], abstract := false, collection := none, hasDel := false }), #[some (.ref 336), none, some (.str (S "FormatError") 870), some (.str (S "FormatError") 878), some (.builtin "Exception.__new__"), some (.bool true)]⟩
noncomputable def q346 (_ : Params) : Obj := ⟨.type "super", none, (.fields #[.ref 345, .ref 345, .ref 345]), #[]⟩
noncomputable def q347 (_ : Params) : Obj := ⟨.type "builtin_function_or_method", none, (.fields #[.builtin "object.__init_subclass__", .ref 345]), #[]⟩
noncomputable def q348 (_ : Params) : Obj := ⟨.type "tuple", none, (.seq #[.ref 332] 0), #[]⟩
noncomputable def q349 (_ : Params) : Obj := ⟨.type "builtin_function_or_method", none, (.fields #[.builtin "type.__prepare__", .type "type"]), #[]⟩
noncomputable def q350 (P : Params) : Obj := ⟨.type "dict", none, (.dict #[K P (S "__module__") 895 (.str (S "pypng.png") 596), K P (S "__qualname__") 897 (.str (S "ProtocolError") 896), K P (S "__firstlineno__") 899 (.int (148) 898), K P (S "__doc__") 901 (.str (S "\nProblem with the way the programming interface has been used,\nor the data presented to it.\n") 900), K P (S "__static_attributes__") 903 (.ref 355)] 5), #[]⟩
noncomputable def q351 (_ : Params) : Obj := ⟨.type "tuple", none, (.seq #[] 0), #[]⟩
noncomputable def q352 (_ : Params) : Obj := ⟨.none, none, (.fields #[]), #[]⟩
noncomputable def q353 (_ : Params) : Obj := ⟨.type "code", none, (.fields #[.str (S "ProtocolError") 890, .str (S "ProtocolError") 891, .str (S "/claim/cut.py") 892, .int (148) 0, .int (0) 0, .int (0) 0, .int (0) 0, .int (0) 0, .ref 351, .bool false, .int (429) 0, .ref 352, .none, .none, .none, .none, .int (893) 0, .int (148) 0, .str (S "/claim/cut.py") 894]), #[]⟩
noncomputable def q354 (_ : Params) : Obj := ⟨.type "frame", none, .plain, #[some (.ref 353), some (.ref 3), some (.ref 350), none, some (.str (S "pypng.png") 596), none, some (.ref 0)]⟩
noncomputable def q355 (_ : Params) : Obj := ⟨.type "tuple", none, (.seq #[] 0), #[]⟩
noncomputable def q356 (P : Params) : Obj := ⟨.type "dict", none, (.dict #[K P (S "__module__") 895 (.str (S "pypng.png") 596), K P (S "__firstlineno__") 899 (.int (148) 898), K P (S "__doc__") 901 (.str (docS (bodyS (topS 20))) 900), K P (S "__static_attributes__") 903 (.ref 355)] 1), #[]⟩
noncomputable def q357 (_ : Params) : Obj := ⟨.type "type", none, (.cls { name := (S "ProtocolError"), bases := [.ref 332], mro := [.ref 357, .ref 332, .type "Exception", .type "BaseException", .type "object"], ns := 356, qualname := (S "ProtocolError"), hasDict := true, slotNames := [], subclasses := [], abstract := false, collection := none, hasDel := false }), #[some (.ref 348), none, some (.str (S "ProtocolError") 888), some (.str (S "ProtocolError") 896), some (.builtin "Exception.__new__"), some (.bool true)]⟩
noncomputable def q358 (_ : Params) : Obj := ⟨.type "super", none, (.fields #[.ref 357, .ref 357, .ref 357]), #[]⟩
noncomputable def q359 (_ : Params) : Obj := ⟨.type "builtin_function_or_method", none, (.fields #[.builtin "object.__init_subclass__", .ref 357]), #[]⟩
noncomputable def q360 (_ : Params) : Obj := ⟨.type "tuple", none, (.seq #[.ref 345] 0), #[]⟩
noncomputable def q361 (_ : Params) : Obj := ⟨.type "builtin_function_or_method", none, (.fields #[.builtin "type.__prepare__", .type "type"]), #[]⟩
noncomputable def q362 (P : Params) : Obj := ⟨.type "dict", none, (.dict #[K P (S "__module__") 913 (.str (S "pypng.png") 596), K P (S "__qualname__") 915 (.str (S "ChunkError") 914), K P (S "__firstlineno__") 917 (.int (153) 916), K P (S "__static_attributes__") 918 (.ref 367)] 4), #[]⟩
noncomputable def q363 (_ : Params) : Obj := ⟨.type "tuple", none, (.seq #[] 0), #[]⟩
noncomputable def q364 (_ : Params) : Obj := ⟨.none, none, (.fields #[]), #[]⟩
noncomputable def q365 (_ : Params) : Obj := ⟨.type "code", none, (.fields #[.str (S "ChunkError") 908, .str (S "ChunkError") 909, .str (S "/claim/cut.py") 910, .int (153) 0, .int (0) 0, .int (0) 0, .int (0) 0, .int (0) 0, .ref 363, .bool false, .int (429) 0, .ref 364, .none, .none, .none, .none, .int (911) 0, .int (153) 0, .str (S "/claim/cut.py") 912]), #[]⟩
noncomputable def q366 (_ : Params) : Obj := ⟨.type "frame", none, .plain, #[some (.ref 365), some (.ref 3), some (.ref 362), none, some (.str (S "pypng.png") 596), none, some (.ref 0)]⟩
noncomputable def q367 (_ : Params) : Obj := ⟨.type "tuple", none, (.seq #[] 0), #[]⟩
noncomputable def q368 (P : Params) : Obj := ⟨.type "dict", none, (.dict #[K P (S "__module__") 913 (.str (S "pypng.png") 596), K P (S "__firstlineno__") 917 (.int (153) 916), K P (S "__static_attributes__") 918 (.ref 367), K P (S "__doc__") 919 (.none)] 2), #[]⟩
noncomputable def q369 (_ : Params) : Obj := ⟨.type "type", none, (.cls { name := (S "ChunkError"), bases := [.ref 345], mro := [.ref 369, .ref 345, .ref 332, .type "Exception", .type "BaseException", .type "object"], ns := 368, qualname := (S "ChunkError"), hasDict := true, slotNames := [], subclasses := [], abstract := false, collection := none, hasDel := false }), #[some (.ref 360), none, some (.str (S "ChunkError") 906), some (.str (S "ChunkError") 914), some (.builtin "Exception.__new__"), some (.bool true)]⟩
noncomputable def q370 (_ : Params) : Obj := ⟨.type "super", none, (.fields #[.ref 369, .ref 369, .ref 369]), #[]⟩
noncomputable def q371 (_ : Params) : Obj := ⟨.type "builtin_function_or_method", none, (.fields #[.builtin "object.__init_subclass__", .ref 369]), #[]⟩
noncomputable def q372 (_ : Params) : Obj := ⟨.type "tuple", none, (.seq #[.bytes #[] 922] 0), #[]⟩
noncomputable def q373 (_ : Params) : Obj := ⟨.type "tuple", none, (.seq #[] 0), #[]⟩
noncomputable def q374 (_ : Params) : Obj := ⟨.none, none, (.fields #[]), #[]⟩
noncomputable def q375 (_ : Params) : Obj := ⟨.type "tuple", none, (.seq #[.str (S "outfile") 926, .str (S "tag") 927, .str (S "data") 928, .str (S "checksum") 929] 0), #[]⟩
noncomputable def q376 (_ : Params) : Obj := ⟨.type "tuple", none, (.seq #[] 0), #[]⟩
noncomputable def q377 (_ : Params) : Obj := ⟨.none, none, (.func { name := (S "write_chunk"), qualname := (S "write_chunk"), params := argsS (topS 22), body := .stmts (bodyS (topS 22)), scope := scopeS (topS 22), globals := 0, closure := [], defaults := .none, kwdefaults := .none, doc := .none, pyModule := .none, annotations := none, code := .none, closureTuple := .none, builtins := 0 }), #[]⟩
noncomputable def q378 (_ : Params) : Obj := ⟨.type "code", none, (.fields #[.str (S "write_chunk") 923, .str (S "write_chunk") 924, .str (S "/claim/cut.py") 925, .int (155) 0, .int (3) 0, .int (0) 0, .int (0) 0, .int (3) 0, .ref 373, .bool true, .int (429) 0, .ref 374, .none, .ref 375, .ref 376, .ref 377, .int (930) 0, .int (155) 0, .str (S "/claim/cut.py") 931]), #[]⟩
noncomputable def q379 (_ : Params) : Obj := ⟨.type "function", none, (.func { name := (S "write_chunk"), qualname := (S "write_chunk"), params := argsS (topS 22), body := .stmts (bodyS (topS 22)), scope := scopeS (topS 22), globals := 3, closure := [], defaults := .ref 372, kwdefaults := .none, doc := .str (docS (bodyS (topS 22))) 932, pyModule := .str (S "pypng.png") 596, annotations := none, code := .ref 378, closureTuple := .none, builtins := 0 }), #[]⟩
noncomputable def q380 (_ : Params) : Obj := ⟨.type "tuple", none, (.seq #[] 0), #[]⟩
noncomputable def q381 (_ : Params) : Obj := ⟨.none, none, (.fields #[]), #[]⟩
noncomputable def q382 (_ : Params) : Obj := ⟨.type "tuple", none, (.seq #[.str (S "out") 937, .str (S "chunks") 938, .str (S "chunk") 939] 0), #[]⟩
noncomputable def q383 (_ : Params) : Obj := ⟨.type "tuple", none, (.seq #[] 0), #[]⟩
noncomputable def q384 (_ : Params) : Obj := ⟨.none, none, (.func { name := (S "write_chunks"), qualname := (S "write_chunks"), params := argsS (topS 23), body := .stmts (bodyS (topS 23)), scope := scopeS (topS 23), globals := 0, closure := [], defaults := .none, kwdefaults := .none, doc := .none, pyModule := .none, annotations := none, code := .none, closureTuple := .none, builtins := 0 }), #[]⟩
noncomputable def q385 (_ : Params) : Obj := ⟨.type "code", none, (.fields #[.str (S "write_chunks") 934, .str (S "write_chunks") 935, .str (S "/claim/cut.py") 936, .int (168) 0, .int (2) 0, .int (0) 0, .int (0) 0, .int (3) 0, .ref 380, .bool true, .int (429) 0, .ref 381, .none, .ref 382, .ref 383, .ref 384, .int (940) 0, .int (168) 0, .str (S "/claim/cut.py") 941]), #[]⟩
noncomputable def q386 (_ : Params) : Obj := ⟨.type "function", none, (.func { name := (S "write_chunks"), qualname := (S "write_chunks"), params := argsS (topS 23), body := .stmts (bodyS (topS 23)), scope := scopeS (topS 23), globals := 3, closure := [], defaults := .none, kwdefaults := .none, doc := .str (docS (bodyS (topS 23))) 942, pyModule := .str (S "pypng.png") 596, annotations := none, code := .ref 385, closureTuple := .none, builtins := 0 }), #[]⟩
noncomputable def q387 (_ : Params) : Obj := ⟨.type "tuple", none, (.seq #[] 0), #[]⟩
noncomputable def q388 (_ : Params) : Obj := ⟨.none, none, (.fields #[]), #[]⟩
noncomputable def q389 (_ : Params) : Obj := ⟨.type "tuple", none, (.seq #[.str (S "it") 949] 0), #[]⟩
noncomputable def q390 (_ : Params) : Obj := ⟨.type "tuple", none, (.seq #[] 0), #[]⟩
noncomputable def q391 (_ : Params) : Obj := ⟨.none, none, (.func { name := (S "_pull"), qualname := (S "_pull"), params := argsS (topS 25), body := .stmts (bodyS (topS 25)), scope := scopeS (topS 25), globals := 0, closure := [], defaults := .none, kwdefaults := .none, doc := .none, pyModule := .none, annotations := none, code := .none, closureTuple := .none, builtins := 0 }), #[]⟩
noncomputable def q392 (_ : Params) : Obj := ⟨.type "code", none, (.fields #[.str (S "_pull") 946, .str (S "_pull") 947, .str (S "/claim/cut.py") 948, .int (174) 0, .int (1) 0, .int (0) 0, .int (0) 0, .int (3) 0, .ref 387, .bool true, .int (429) 0, .ref 388, .none, .ref 389, .ref 390, .ref 391, .int (950) 0, .int (174) 0, .str (S "/claim/cut.py") 951]), #[]⟩
noncomputable def q393 (_ : Params) : Obj := ⟨.type "function", none, (.func { name := (S "_pull"), qualname := (S "_pull"), params := argsS (topS 25), body := .stmts (bodyS (topS 25)), scope := scopeS (topS 25), globals := 3, closure := [], defaults := .none, kwdefaults := .none, doc := .none, pyModule := .str (S "itertools") 944, annotations := none, code := .ref 392, closureTuple := .none, builtins := 0 }), #[]⟩
noncomputable def q394 (_ : Params) : Obj := ⟨.type "tuple", none, (.seq #[] 0), #[]⟩
noncomputable def q395 (_ : Params) : Obj := ⟨.type "builtin_function_or_method", none, (.fields #[.builtin "type.__prepare__", .type "type"]), #[]⟩
noncomputable def q396 (P : Params) : Obj := ⟨.type "dict", none, (.dict #[K P (S "__module__") 960 (.str (S "itertools") 944), K P (S "__qualname__") 962 (.str (S "chain") 961), K P (S "__firstlineno__") 964 (.int (179) 963), K P (S "__slots__") 967 (.ref 401), K P (S "__init__") 975 (.ref 408), K P (S "from_iterable") 995 (.ref 417), K P (S "__iter__") 1002 (.ref 425), K P (S "__next__") 1015 (.ref 432), K P (S "__static_attributes__") 1018 (.ref 433)] 9), #[]⟩
noncomputable def q397 (_ : Params) : Obj := ⟨.type "tuple", none, (.seq #[] 0), #[]⟩
noncomputable def q398 (_ : Params) : Obj := ⟨.none, none, (.fields #[.int (182) 0, .int (4) 0, .ref 407, .int (187) 0, .int (4) 0, .ref 414, .int (190) 0, .int (4) 0, .ref 424, .int (193) 0, .int (4) 0, .ref 431]), #[]⟩
noncomputable def q399 (_ : Params) : Obj := ⟨.type "code", none, (.fields #[.str (S "chain") 955, .str (S "chain") 956, .str (S "/claim/cut.py") 957, .int (179) 0, .int (0) 0, .int (0) 0, .int (0) 0, .int (0) 0, .ref 397, .bool false, .int (429) 0, .ref 398, .none, .none, .none, .none, .int (958) 0, .int (179) 0, .str (S "/claim/cut.py") 959]), #[]⟩
noncomputable def q400 (_ : Params) : Obj := ⟨.type "frame", none, .plain, #[some (.ref 399), some (.ref 3), some (.ref 396), none, some (.str (S "itertools") 944), none, some (.ref 0)]⟩
noncomputable def q401 (_ : Params) : Obj := ⟨.type "tuple", none, (.seq #[.str (S "_source") 965, .str (S "_active") 966] 0), #[]⟩
noncomputable def q402 (_ : Params) : Obj := ⟨.type "tuple", none, (.seq #[] 0), #[]⟩
noncomputable def q403 (_ : Params) : Obj := ⟨.none, none, (.fields #[]), #[]⟩
noncomputable def q404 (_ : Params) : Obj := ⟨.type "tuple", none, (.seq #[.str (S "self") 971, .str (S "iterables") 972] 0), #[]⟩
noncomputable def q405 (_ : Params) : Obj := ⟨.type "tuple", none, (.seq #[] 0), #[]⟩
noncomputable def q406 (_ : Params) : Obj := ⟨.none, none, (.func { name := (S "__init__"), qualname := (S "chain.__init__"), params := argsS (clsS 26 1), body := .stmts (bodyS (clsS 26 1)), scope := scopeS (clsS 26 1), globals := 0, closure := [], defaults := .none, kwdefaults := .none, doc := .none, pyModule := .none, annotations := none, code := .none, closureTuple := .none, builtins := 0 }), #[]⟩
noncomputable def q407 (_ : Params) : Obj := ⟨.type "code", none, (.fields #[.str (S "__init__") 968, .str (S "chain.__init__") 969, .str (S "/claim/cut.py") 970, .int (182) 0, .int (1) 0, .int (0) 0, .int (0) 0, .int (7) 0, .ref 402, .bool true, .int (429) 0, .ref 403, .none, .ref 404, .ref 405, .ref 406, .int (973) 0, .int (182) 0, .str (S "/claim/cut.py") 974]), #[]⟩
noncomputable def q408 (_ : Params) : Obj := ⟨.type "function", none, (.func { name := (S "__init__"), qualname := (S "chain.__init__"), params := argsS (clsS 26 1), body := .stmts (bodyS (clsS 26 1)), scope := scopeS (clsS 26 1), globals := 3, closure := [], defaults := .none, kwdefaults := .none, doc := .none, pyModule := .str (S "itertools") 944, annotations := none, code := .ref 407, closureTuple := .none, builtins := 0 }), #[]⟩
noncomputable def q409 (_ : Params) : Obj := ⟨.type "tuple", none, (.seq #[] 0), #[]⟩
noncomputable def q410 (_ : Params) : Obj := ⟨.none, none, (.fields #[]), #[]⟩
noncomputable def q411 (_ : Params) : Obj := ⟨.type "tuple", none, (.seq #[.str (S "cls") 979, .str (S "iterable") 980] 0), #[]⟩
noncomputable def q412 (_ : Params) : Obj := ⟨.type "tuple", none, (.seq #[] 0), #[]⟩
noncomputable def q413 (_ : Params) : Obj := ⟨.none, none, (.func { name := (S "from_iterable"), qualname := (S "chain.from_iterable"), params := argsS (clsS 26 2), body := .stmts (bodyS (clsS 26 2)), scope := scopeS (clsS 26 2), globals := 0, closure := [], defaults := .none, kwdefaults := .none, doc := .none, pyModule := .none, annotations := none, code := .none, closureTuple := .none, builtins := 0 }), #[]⟩
noncomputable def q414 (_ : Params) : Obj := ⟨.type "code", none, (.fields #[.str (S "from_iterable") 976, .str (S "chain.from_iterable") 977, .str (S "/claim/cut.py") 978, .int (186) 0, .int (2) 0, .int (2) 0, .int (0) 0, .int (3) 0, .ref 409, .bool true, .int (429) 0, .ref 410, .none, .ref 411, .ref 412, .ref 413, .int (981) 0, .int (186) 0, .str (S "/claim/cut.py") 982]), #[]⟩
noncomputable def q415 (_ : Params) : Obj := ⟨.type "function", none, (.func { name := (S "from_iterable"), qualname := (S "chain.from_iterable"), params := argsS (clsS 26 2), body := .stmts (bodyS (clsS 26 2)), scope := scopeS (clsS 26 2), globals := 3, closure := [], defaults := .none, kwdefaults := .none, doc := .none, pyModule := .str (S "itertools") 944, annotations := some 418, code := .ref 414, closureTuple := .none, builtins := 0 }), #[]⟩
noncomputable def q416 (P : Params) : Obj := ⟨.type "dict", none, (.dict #[K P (S "__module__") 984 (.str (S "itertools") 944), K P (S "__name__") 987 (.str (S "from_iterable") 986), K P (S "__qualname__") 990 (.str (S "chain.from_iterable") 989), K P (S "__doc__") 992 (.none), K P (S "__annotations__") 994 (.ref 418)] 5), #[]⟩
noncomputable def q417 (_ : Params) : Obj := ⟨.type "classmethod", some 416, (.fields #[.ref 415, .bool false]), #[]⟩
noncomputable def q418 (_ : Params) : Obj := ⟨.type "dict", none, (.dict #[] 0), #[]⟩
noncomputable def q419 (_ : Params) : Obj := ⟨.type "tuple", none, (.seq #[] 0), #[]⟩
noncomputable def q420 (_ : Params) : Obj := ⟨.none, none, (.fields #[]), #[]⟩
noncomputable def q421 (_ : Params) : Obj := ⟨.type "tuple", none, (.seq #[.str (S "self") 999] 0), #[]⟩
noncomputable def q422 (_ : Params) : Obj := ⟨.type "tuple", none, (.seq #[] 0), #[]⟩
noncomputable def q423 (_ : Params) : Obj := ⟨.none, none, (.func { name := (S "__iter__"), qualname := (S "chain.__iter__"), params := argsS (clsS 26 3), body := .stmts (bodyS (clsS 26 3)), scope := scopeS (clsS 26 3), globals := 0, closure := [], defaults := .none, kwdefaults := .none, doc := .none, pyModule := .none, annotations := none, code := .none, closureTuple := .none, builtins := 0 }), #[]⟩
noncomputable def q424 (_ : Params) : Obj := ⟨.type "code", none, (.fields #[.str (S "__iter__") 996, .str (S "chain.__iter__") 997, .str (S "/claim/cut.py") 998, .int (190) 0, .int (1) 0, .int (0) 0, .int (0) 0, .int (3) 0, .ref 419, .bool true, .int (429) 0, .ref 420, .none, .ref 421, .ref 422, .ref 423, .int (1000) 0, .int (190) 0, .str (S "/claim/cut.py") 1001]), #[]⟩
noncomputable def q425 (_ : Params) : Obj := ⟨.type "function", none, (.func { name := (S "__iter__"), qualname := (S "chain.__iter__"), params := argsS (clsS 26 3), body := .stmts (bodyS (clsS 26 3)), scope := scopeS (clsS 26 3), globals := 3, closure := [], defaults := .none, kwdefaults := .none, doc := .none, pyModule := .str (S "itertools") 944, annotations := none, code := .ref 424, closureTuple := .none, builtins := 0 }), #[]⟩
noncomputable def q426 (_ : Params) : Obj := ⟨.type "tuple", none, (.seq #[] 0), #[]⟩
noncomputable def q427 (_ : Params) : Obj := ⟨.none, none, (.fields #[]), #[]⟩
noncomputable def q428 (_ : Params) : Obj := ⟨.type "tuple", none, (.seq #[.str (S "self") 1006, .str (S "path") 1007, .str (S "top") 1008, .str (S "more") 1009, .str (S "iterable") 1010, .str (S "active") 1011, .str (S "item") 1012] 0), #[]⟩
noncomputable def q429 (_ : Params) : Obj := ⟨.type "tuple", none, (.seq #[] 0), #[]⟩
noncomputable def q430 (_ : Params) : Obj := ⟨.none, none, (.func { name := (S "__next__"), qualname := (S "chain.__next__"), params := argsS (clsS 26 4), body := .stmts (bodyS (clsS 26 4)), scope := scopeS (clsS 26 4), globals := 0, closure := [], defaults := .none, kwdefaults := .none, doc := .none, pyModule := .none, annotations := none, code := .none, closureTuple := .none, builtins := 0 }), #[]⟩
noncomputable def q431 (_ : Params) : Obj := ⟨.type "code", none, (.fields #[.str (S "__next__") 1003, .str (S "chain.__next__") 1004, .str (S "/claim/cut.py") 1005, .int (193) 0, .int (1) 0, .int (0) 0, .int (0) 0, .int (3) 0, .ref 426, .bool true, .int (429) 0, .ref 427, .none, .ref 428, .ref 429, .ref 430, .int (1013) 0, .int (193) 0, .str (S "/claim/cut.py") 1014]), #[]⟩
noncomputable def q432 (_ : Params) : Obj := ⟨.type "function", none, (.func { name := (S "__next__"), qualname := (S "chain.__next__"), params := argsS (clsS 26 4), body := .stmts (bodyS (clsS 26 4)), scope := scopeS (clsS 26 4), globals := 3, closure := [], defaults := .none, kwdefaults := .none, doc := .none, pyModule := .str (S "itertools") 944, annotations := none, code := .ref 431, closureTuple := .none, builtins := 0 }), #[]⟩
noncomputable def q433 (_ : Params) : Obj := ⟨.type "tuple", none, (.seq #[.str (S "_active") 1016, .str (S "_source") 1017] 0), #[]⟩
noncomputable def q434 (_ : Params) : Obj := ⟨.type "list", none, (.seq #[.str (S "_source") 965, .str (S "_active") 966] 1), #[]⟩
noncomputable def q435 (P : Params) : Obj := ⟨.type "dict", none, (.dict #[K P (S "__module__") 960 (.str (S "itertools") 944), K P (S "__firstlineno__") 964 (.int (179) 963), K P (S "__slots__") 967 (.ref 401), K P (S "__init__") 975 (.ref 408), K P (S "from_iterable") 995 (.ref 417), K P (S "__iter__") 1002 (.ref 425), K P (S "__next__") 1015 (.ref 432), K P (S "__static_attributes__") 1018 (.ref 433), K P (S "_active") 1020 (.ref 437), K P (S "_source") 1022 (.ref 438), K P (S "__doc__") 1023 (.none)] 4), #[]⟩
noncomputable def q436 (_ : Params) : Obj := ⟨.type "type", none, (.cls { name := (S "chain"), bases := [.type "object"], mro := [.ref 436, .type "object"], ns := 435, qualname := (S "chain"), hasDict := false, slotNames := [(S "_active"), (S "_source")], subclasses := [], abstract := false, collection := none, hasDel := false }), #[none, none, some (.str (S "chain") 953), some (.str (S "chain") 961), some (.builtin "object.__new__"), some (.bool false)]⟩
noncomputable def q437 (_ : Params) : Obj := ⟨.type "member_descriptor", none, (.fields #[.str (S "_active") 1019, .ref 436, .builtin "proto.slot", .builtin "proto.slot#set", .int (1) 0]), #[]⟩
noncomputable def q438 (_ : Params) : Obj := ⟨.type "member_descriptor", none, (.fields #[.str (S "_source") 1021, .ref 436, .builtin "proto.slot", .builtin "proto.slot#set", .int (0) 0]), #[]⟩
noncomputable def q439 (_ : Params) : Obj := ⟨.type "super", none, (.fields #[.ref 436, .ref 436, .ref 436]), #[]⟩
noncomputable def q440 (_ : Params) : Obj := ⟨.type "builtin_function_or_method", none, (.fields #[.builtin "object.__init_subclass__", .ref 436]), #[]⟩
noncomputable def q441 (_ : Params) : Obj := ⟨.type "tuple", none, (.seq #[] 0), #[]⟩
noncomputable def q442 (_ : Params) : Obj := ⟨.none, none, (.fields #[]), #[]⟩
noncomputable def q443 (_ : Params) : Obj := ⟨.type "tuple", none, (.seq #[.str (S "args") 1031, .str (S "kwargs") 1032] 0), #[]⟩
noncomputable def q444 (_ : Params) : Obj := ⟨.type "tuple", none, (.seq #[] 0), #[]⟩
noncomputable def q445 (_ : Params) : Obj := ⟨.none, none, (.func { name := (S "warn"), qualname := (S "warn"), params := argsS (topS 28), body := .stmts (bodyS (topS 28)), scope := scopeS (topS 28), globals := 0, closure := [], defaults := .none, kwdefaults := .none, doc := .none, pyModule := .none, annotations := none, code := .none, closureTuple := .none, builtins := 0 }), #[]⟩
noncomputable def q446 (_ : Params) : Obj := ⟨.type "code", none, (.fields #[.str (S "warn") 1028, .str (S "warn") 1029, .str (S "/claim/cut.py") 1030, .int (229) 0, .int (0) 0, .int (0) 0, .int (0) 0, .int (15) 0, .ref 441, .bool true, .int (429) 0, .ref 442, .none, .ref 443, .ref 444, .ref 445, .int (1033) 0, .int (229) 0, .str (S "/claim/cut.py") 1034]), #[]⟩
noncomputable def q447 (_ : Params) : Obj := ⟨.type "function", none, (.func { name := (S "warn"), qualname := (S "warn"), params := argsS (topS 28), body := .stmts (bodyS (topS 28)), scope := scopeS (topS 28), globals := 3, closure := [], defaults := .none, kwdefaults := .none, doc := .none, pyModule := .str (S "warnings") 1026, annotations := none, code := .ref 446, closureTuple := .none, builtins := 0 }), #[]⟩
noncomputable def q448 (_ : Params) : Obj := ⟨.type "tuple", none, (.seq #[] 0), #[]⟩
noncomputable def q449 (_ : Params) : Obj := ⟨.type "builtin_function_or_method", none, (.fields #[.builtin "type.__prepare__", .type "type"]), #[]⟩
noncomputable def q450 (P : Params) : Obj := ⟨.type "dict", none, (.dict #[K P (S "__module__") 1045 (.str (S "pypng.png") 1036), K P (S "__qualname__") 1047 (.str (S "Reader") 1046), K P (S "__firstlineno__") 1049 (.int (232) 1048), K P (S "__doc__") 1051 (.str (S "\nPure Python PNG decoder in pure Python.\n") 1050), K P (S "__init__") 1065 (.ref 462), K P (S "chunk") 1082 (.ref 470), K P (S "chunks") 1092 (.ref 477), K P (S "undo_filter") 1106 (.ref 484), K P (S "_deinterlace") 1133 (.ref 491), K P (S "_iter_bytes_to_values") 1143 (.ref 498), K P (S "_bytes_to_values") 1150 (.ref 504), K P (S "_iter_straight_packed") 1165 (.ref 511), K P (S "validate_signature") 1173 (.ref 518), K P (S "preamble") 1182 (.ref 526), K P (S "_chunk_len_type") 1194 (.ref 533), K P (S "process_chunk") 1207 (.ref 541), K P (S "_process_IHDR") 1215 (.ref 548), K P (S "_process_PLTE") 1223 (.ref 555), K P (S "_process_bKGD") 1231 (.ref 562), K P (S "_process_tRNS") 1239 (.ref 569), K P (S "_process_sBIT") 1247 (.ref 576), K P (S "_process_pHYs") 1255 (.ref 583), K P (S "read") 1273 (.ref 591), K P (S "read_flat") 1280 (.ref 598), K P (S "palette") 1292 (.ref 606), K P (S "asDirect") 1299 (.ref 613), K P (S "_as_rescale") 1308 (.ref 620), K P (S "asRGB8") 1315 (.ref 627), K P (S "asRGBA8") 1322 (.ref 634), K P (S "asRGB") 1329 (.ref 641), K P (S "asRGBA") 1336 (.ref 648), K P (S "__static_attributes__") 1341 (.ref 649)] 32), #[]⟩
noncomputable def q451 (_ : Params) : Obj := ⟨.type "tuple", none, (.seq #[] 0), #[]⟩
noncomputable def q452 (_ : Params) : Obj := ⟨.none, none, (.fields #[.int (237) 0, .int (4) 0, .ref 461, .int (272) 0, .int (4) 0, .ref 469, .int (309) 0, .int (4) 0, .ref 476, .int (319) 0, .int (4) 0, .ref 483, .int (349) 0, .int (4) 0, .ref 490, .int (384) 0, .int (4) 0, .ref 497, .int (394) 0, .int (4) 0, .ref 503, .int (414) 0, .int (4) 0, .ref 510, .int (436) 0, .int (4) 0, .ref 517, .int (455) 0, .int (4) 0, .ref 525, .int (476) 0, .int (4) 0, .ref 532, .int (496) 0, .int (4) 0, .ref 540, .int (512) 0, .int (4) 0, .ref 547, .int (515) 0, .int (4) 0, .ref 554, .int (518) 0, .int (4) 0, .ref 561, .int (521) 0, .int (4) 0, .ref 568, .int (524) 0, .int (4) 0, .ref 575, .int (527) 0, .int (4) 0, .ref 582, .int (530) 0, .int (4) 0, .ref 590, .int (585) 0, .int (4) 0, .ref 597, .int (588) 0, .int (4) 0, .ref 605, .int (613) 0, .int (4) 0, .ref 612, .int (616) 0, .int (4) 0, .ref 619, .int (619) 0, .int (4) 0, .ref 626, .int (622) 0, .int (4) 0, .ref 633, .int (625) 0, .int (4) 0, .ref 640, .int (628) 0, .int (4) 0, .ref 647]), #[]⟩
noncomputable def q453 (_ : Params) : Obj := ⟨.type "code", none, (.fields #[.str (S "Reader") 1040, .str (S "Reader") 1041, .str (S "/claim/cut.py") 1042, .int (232) 0, .int (0) 0, .int (0) 0, .int (0) 0, .int (0) 0, .ref 451, .bool false, .int (429) 0, .ref 452, .none, .none, .none, .none, .int (1043) 0, .int (232) 0, .str (S "/claim/cut.py") 1044]), #[]⟩
noncomputable def q454 (_ : Params) : Obj := ⟨.type "frame", none, .plain, #[some (.ref 453), some (.ref 3), some (.ref 450), none, some (.str (S "pypng.png") 1036), none, some (.ref 0)]⟩
noncomputable def q455 (_ : Params) : Obj := ⟨.type "tuple", none, (.seq #[.none, .none, .none] 0), #[]⟩
noncomputable def q456 (_ : Params) : Obj := ⟨.type "tuple", none, (.seq #[] 0), #[]⟩
noncomputable def q457 (_ : Params) : Obj := ⟨.none, none, (.fields #[]), #[]⟩
noncomputable def q458 (_ : Params) : Obj := ⟨.type "tuple", none, (.seq #[.str (S "self") 1056, .str (S "_guess") 1057, .str (S "filename") 1058, .str (S "file") 1059, .str (S "octets") 1060, .str (S "keywords_supplied") 1061] 0), #[]⟩
noncomputable def q459 (_ : Params) : Obj := ⟨.type "tuple", none, (.seq #[] 0), #[]⟩
noncomputable def q460 (_ : Params) : Obj := ⟨.none, none, (.func { name := (S "__init__"), qualname := (S "Reader.__init__"), params := argsS (clsS 30 1), body := .stmts (bodyS (clsS 30 1)), scope := scopeS (clsS 30 1), globals := 0, closure := [], defaults := .none, kwdefaults := .none, doc := .none, pyModule := .none, annotations := none, code := .none, closureTuple := .none, builtins := 0 }), #[]⟩
noncomputable def q461 (_ : Params) : Obj := ⟨.type "code", none, (.fields #[.str (S "__init__") 1053, .str (S "Reader.__init__") 1054, .str (S "/claim/cut.py") 1055, .int (237) 0, .int (4) 0, .int (0) 0, .int (0) 0, .int (11) 0, .ref 456, .bool true, .int (429) 0, .ref 457, .none, .ref 458, .ref 459, .ref 460, .int (1062) 0, .int (237) 0, .str (S "/claim/cut.py") 1063]), #[]⟩
noncomputable def q462 (_ : Params) : Obj := ⟨.type "function", none, (.func { name := (S "__init__"), qualname := (S "Reader.__init__"), params := argsS (clsS 30 1), body := .stmts (bodyS (clsS 30 1)), scope := scopeS (clsS 30 1), globals := 3, closure := [], defaults := .ref 455, kwdefaults := .none, doc := .str (docS (bodyS (clsS 30 1))) 1064, pyModule := .str (S "pypng.png") 1036, annotations := none, code := .ref 461, closureTuple := .none, builtins := 0 }), #[]⟩
noncomputable def q463 (_ : Params) : Obj := ⟨.type "tuple", none, (.seq #[.bool false] 0), #[]⟩
noncomputable def q464 (_ : Params) : Obj := ⟨.type "tuple", none, (.seq #[] 0), #[]⟩
noncomputable def q465 (_ : Params) : Obj := ⟨.none, none, (.fields #[]), #[]⟩
noncomputable def q466 (_ : Params) : Obj := ⟨.type "tuple", none, (.seq #[.str (S "self") 1069, .str (S "lenient") 1070, .str (S "length") 1071, .str (S "kind") 1072, .str (S "data") 1073, .str (S "checksum") 1074, .str (S "verify") 1075, .str (S "a") 1076, .str (S "b") 1077, .str (S "message") 1078] 0), #[]⟩
noncomputable def q467 (_ : Params) : Obj := ⟨.type "tuple", none, (.seq #[] 0), #[]⟩
noncomputable def q468 (_ : Params) : Obj := ⟨.none, none, (.func { name := (S "chunk"), qualname := (S "Reader.chunk"), params := argsS (clsS 30 2), body := .stmts (bodyS (clsS 30 2)), scope := scopeS (clsS 30 2), globals := 0, closure := [], defaults := .none, kwdefaults := .none, doc := .none, pyModule := .none, annotations := none, code := .none, closureTuple := .none, builtins := 0 }), #[]⟩
noncomputable def q469 (_ : Params) : Obj := ⟨.type "code", none, (.fields #[.str (S "chunk") 1066, .str (S "Reader.chunk") 1067, .str (S "/claim/cut.py") 1068, .int (272) 0, .int (2) 0, .int (0) 0, .int (0) 0, .int (3) 0, .ref 464, .bool true, .int (429) 0, .ref 465, .none, .ref 466, .ref 467, .ref 468, .int (1079) 0, .int (272) 0, .str (S "/claim/cut.py") 1080]), #[]⟩
noncomputable def q470 (_ : Params) : Obj := ⟨.type "function", none, (.func { name := (S "chunk"), qualname := (S "Reader.chunk"), params := argsS (clsS 30 2), body := .stmts (bodyS (clsS 30 2)), scope := scopeS (clsS 30 2), globals := 3, closure := [], defaults := .ref 463, kwdefaults := .none, doc := .str (docS (bodyS (clsS 30 2))) 1081, pyModule := .str (S "pypng.png") 1036, annotations := none, code := .ref 469, closureTuple := .none, builtins := 0 }), #[]⟩
noncomputable def q471 (_ : Params) : Obj := ⟨.type "tuple", none, (.seq #[] 0), #[]⟩
noncomputable def q472 (_ : Params) : Obj := ⟨.none, none, (.fields #[]), #[]⟩
noncomputable def q473 (_ : Params) : Obj := ⟨.type "tuple", none, (.seq #[.str (S "self") 1086, .str (S "t") 1087, .str (S "v") 1088] 0), #[]⟩
noncomputable def q474 (_ : Params) : Obj := ⟨.type "tuple", none, (.seq #[] 0), #[]⟩
noncomputable def q475 (_ : Params) : Obj := ⟨.none, none, (.func { name := (S "chunks"), qualname := (S "Reader.chunks"), params := argsS (clsS 30 3), body := .stmts (bodyS (clsS 30 3)), scope := scopeS (clsS 30 3), globals := 0, closure := [], defaults := .none, kwdefaults := .none, doc := .none, pyModule := .none, annotations := none, code := .none, closureTuple := .none, builtins := 0 }), #[]⟩
noncomputable def q476 (_ : Params) : Obj := ⟨.type "code", none, (.fields #[.str (S "chunks") 1083, .str (S "Reader.chunks") 1084, .str (S "/claim/cut.py") 1085, .int (309) 0, .int (1) 0, .int (0) 0, .int (0) 0, .int (35) 0, .ref 471, .bool true, .int (429) 0, .ref 472, .none, .ref 473, .ref 474, .ref 475, .int (1089) 0, .int (309) 0, .str (S "/claim/cut.py") 1090]), #[]⟩
noncomputable def q477 (_ : Params) : Obj := ⟨.type "function", none, (.func { name := (S "chunks"), qualname := (S "Reader.chunks"), params := argsS (clsS 30 3), body := .stmts (bodyS (clsS 30 3)), scope := scopeS (clsS 30 3), globals := 3, closure := [], defaults := .none, kwdefaults := .none, doc := .str (docS (bodyS (clsS 30 3))) 1091, pyModule := .str (S "pypng.png") 1036, annotations := none, code := .ref 476, closureTuple := .none, builtins := 0 }), #[]⟩
noncomputable def q478 (_ : Params) : Obj := ⟨.type "tuple", none, (.seq #[] 0), #[]⟩
noncomputable def q479 (_ : Params) : Obj := ⟨.none, none, (.fields #[]), #[]⟩
noncomputable def q480 (_ : Params) : Obj := ⟨.type "tuple", none, (.seq #[.str (S "self") 1096, .str (S "filter_type") 1097, .str (S "scanline") 1098, .str (S "previous") 1099, .str (S "result") 1100, .str (S "fu") 1101, .str (S "fn") 1102] 0), #[]⟩
noncomputable def q481 (_ : Params) : Obj := ⟨.type "tuple", none, (.seq #[] 0), #[]⟩
noncomputable def q482 (_ : Params) : Obj := ⟨.none, none, (.func { name := (S "undo_filter"), qualname := (S "Reader.undo_filter"), params := argsS (clsS 30 4), body := .stmts (bodyS (clsS 30 4)), scope := scopeS (clsS 30 4), globals := 0, closure := [], defaults := .none, kwdefaults := .none, doc := .none, pyModule := .none, annotations := none, code := .none, closureTuple := .none, builtins := 0 }), #[]⟩
noncomputable def q483 (_ : Params) : Obj := ⟨.type "code", none, (.fields #[.str (S "undo_filter") 1093, .str (S "Reader.undo_filter") 1094, .str (S "/claim/cut.py") 1095, .int (319) 0, .int (4) 0, .int (0) 0, .int (0) 0, .int (3) 0, .ref 478, .bool true, .int (429) 0, .ref 479, .none, .ref 480, .ref 481, .ref 482, .int (1103) 0, .int (319) 0, .str (S "/claim/cut.py") 1104]), #[]⟩
noncomputable def q484 (_ : Params) : Obj := ⟨.type "function", none, (.func { name := (S "undo_filter"), qualname := (S "Reader.undo_filter"), params := argsS (clsS 30 4), body := .stmts (bodyS (clsS 30 4)), scope := scopeS (clsS 30 4), globals := 3, closure := [], defaults := .none, kwdefaults := .none, doc := .str (docS (bodyS (clsS 30 4))) 1105, pyModule := .str (S "pypng.png") 1036, annotations := none, code := .ref 483, closureTuple := .none, builtins := 0 }), #[]⟩
noncomputable def q485 (_ : Params) : Obj := ⟨.type "tuple", none, (.seq #[] 0), #[]⟩
noncomputable def q486 (_ : Params) : Obj := ⟨.none, none, (.fields #[]), #[]⟩
noncomputable def q487 (_ : Params) : Obj := ⟨.type "tuple", none, (.seq #[.str (S "self") 1110, .str (S "raw") 1111, .str (S "vpr") 1112, .str (S "vpi") 1113, .str (S "a") 1114, .str (S "source_offset") 1115, .str (S "lines") 1116, .str (S "recon") 1117, .str (S "x") 1118, .str (S "y") 1119, .str (S "xstep") 1120, .str (S "ppr") 1121, .str (S "row_size") 1122, .str (S "filter_type") 1123, .str (S "scanline") 1124, .str (S "flat") 1125, .str (S "offset") 1126, .str (S "end_offset") 1127, .str (S "skip") 1128, .str (S "i") 1129] 0), #[]⟩
noncomputable def q488 (_ : Params) : Obj := ⟨.type "tuple", none, (.seq #[] 0), #[]⟩
noncomputable def q489 (_ : Params) : Obj := ⟨.none, none, (.func { name := (S "_deinterlace"), qualname := (S "Reader._deinterlace"), params := argsS (clsS 30 5), body := .stmts (bodyS (clsS 30 5)), scope := scopeS (clsS 30 5), globals := 0, closure := [], defaults := .none, kwdefaults := .none, doc := .none, pyModule := .none, annotations := none, code := .none, closureTuple := .none, builtins := 0 }), #[]⟩
noncomputable def q490 (_ : Params) : Obj := ⟨.type "code", none, (.fields #[.str (S "_deinterlace") 1107, .str (S "Reader._deinterlace") 1108, .str (S "/claim/cut.py") 1109, .int (349) 0, .int (2) 0, .int (0) 0, .int (0) 0, .int (3) 0, .ref 485, .bool true, .int (429) 0, .ref 486, .none, .ref 487, .ref 488, .ref 489, .int (1130) 0, .int (349) 0, .str (S "/claim/cut.py") 1131]), #[]⟩
noncomputable def q491 (_ : Params) : Obj := ⟨.type "function", none, (.func { name := (S "_deinterlace"), qualname := (S "Reader._deinterlace"), params := argsS (clsS 30 5), body := .stmts (bodyS (clsS 30 5)), scope := scopeS (clsS 30 5), globals := 3, closure := [], defaults := .none, kwdefaults := .none, doc := .str (docS (bodyS (clsS 30 5))) 1132, pyModule := .str (S "pypng.png") 1036, annotations := none, code := .ref 490, closureTuple := .none, builtins := 0 }), #[]⟩
noncomputable def q492 (_ : Params) : Obj := ⟨.type "tuple", none, (.seq #[] 0), #[]⟩
noncomputable def q493 (_ : Params) : Obj := ⟨.none, none, (.fields #[]), #[]⟩
noncomputable def q494 (_ : Params) : Obj := ⟨.type "tuple", none, (.seq #[.str (S "self") 1137, .str (S "byte_rows") 1138, .str (S "row") 1139] 0), #[]⟩
noncomputable def q495 (_ : Params) : Obj := ⟨.type "tuple", none, (.seq #[] 0), #[]⟩
noncomputable def q496 (_ : Params) : Obj := ⟨.none, none, (.func { name := (S "_iter_bytes_to_values"), qualname := (S "Reader._iter_bytes_to_values"), params := argsS (clsS 30 6), body := .stmts (bodyS (clsS 30 6)), scope := scopeS (clsS 30 6), globals := 0, closure := [], defaults := .none, kwdefaults := .none, doc := .none, pyModule := .none, annotations := none, code := .none, closureTuple := .none, builtins := 0 }), #[]⟩
noncomputable def q497 (_ : Params) : Obj := ⟨.type "code", none, (.fields #[.str (S "_iter_bytes_to_values") 1134, .str (S "Reader._iter_bytes_to_values") 1135, .str (S "/claim/cut.py") 1136, .int (384) 0, .int (2) 0, .int (0) 0, .int (0) 0, .int (35) 0, .ref 492, .bool true, .int (429) 0, .ref 493, .none, .ref 494, .ref 495, .ref 496, .int (1140) 0, .int (384) 0, .str (S "/claim/cut.py") 1141]), #[]⟩
noncomputable def q498 (_ : Params) : Obj := ⟨.type "function", none, (.func { name := (S "_iter_bytes_to_values"), qualname := (S "Reader._iter_bytes_to_values"), params := argsS (clsS 30 6), body := .stmts (bodyS (clsS 30 6)), scope := scopeS (clsS 30 6), globals := 3, closure := [], defaults := .none, kwdefaults := .none, doc := .str (docS (bodyS (clsS 30 6))) 1142, pyModule := .str (S "pypng.png") 1036, annotations := none, code := .ref 497, closureTuple := .none, builtins := 0 }), #[]⟩
noncomputable def q499 (_ : Params) : Obj := ⟨.type "tuple", none, (.seq #[.none] 0), #[]⟩
noncomputable def q500 (_ : Params) : Obj := ⟨.type "tuple", none, (.seq #[] 0), #[]⟩
noncomputable def q501 (_ : Params) : Obj := ⟨.none, none, (.fields #[]), #[]⟩
noncomputable def q502 (_ : Params) : Obj := ⟨.none, none, (.func { name := (S "_bytes_to_values"), qualname := (S "Reader._bytes_to_values"), params := argsS (clsS 30 7), body := .stmts (bodyS (clsS 30 7)), scope := scopeS (clsS 30 7), globals := 0, closure := [], defaults := .none, kwdefaults := .none, doc := .none, pyModule := .none, annotations := none, code := .none, closureTuple := .none, builtins := 0 }), #[]⟩
noncomputable def q503 (_ : Params) : Obj := ⟨.type "code", none, (.fields #[.str (S "_bytes_to_values") 1144, .str (S "Reader._bytes_to_values") 1145, .str (S "/claim/cut.py") 1146, .int (394) 0, .int (3) 0, .int (0) 0, .int (0) 0, .int (3) 0, .ref 500, .bool true, .int (429) 0, .ref 501, .none, .none, .none, .ref 502, .int (1147) 0, .int (394) 0, .str (S "/claim/cut.py") 1148]), #[]⟩
noncomputable def q504 (_ : Params) : Obj := ⟨.type "function", none, (.func { name := (S "_bytes_to_values"), qualname := (S "Reader._bytes_to_values"), params := argsS (clsS 30 7), body := .stmts (bodyS (clsS 30 7)), scope := scopeS (clsS 30 7), globals := 3, closure := [], defaults := .ref 499, kwdefaults := .none, doc := .str (docS (bodyS (clsS 30 7))) 1149, pyModule := .str (S "pypng.png") 1036, annotations := none, code := .ref 503, closureTuple := .none, builtins := 0 }), #[]⟩
noncomputable def q505 (_ : Params) : Obj := ⟨.type "tuple", none, (.seq #[] 0), #[]⟩
noncomputable def q506 (_ : Params) : Obj := ⟨.none, none, (.fields #[]), #[]⟩
noncomputable def q507 (_ : Params) : Obj := ⟨.type "tuple", none, (.seq #[.str (S "self") 1154, .str (S "byte_blocks") 1155, .str (S "rb") 1156, .str (S "a") 1157, .str (S "recon") 1158, .str (S "some_bytes") 1159, .str (S "filter_type") 1160, .str (S "scanline") 1161] 0), #[]⟩
noncomputable def q508 (_ : Params) : Obj := ⟨.type "tuple", none, (.seq #[] 0), #[]⟩
noncomputable def q509 (_ : Params) : Obj := ⟨.none, none, (.func { name := (S "_iter_straight_packed"), qualname := (S "Reader._iter_straight_packed"), params := argsS (clsS 30 8), body := .stmts (bodyS (clsS 30 8)), scope := scopeS (clsS 30 8), globals := 0, closure := [], defaults := .none, kwdefaults := .none, doc := .none, pyModule := .none, annotations := none, code := .none, closureTuple := .none, builtins := 0 }), #[]⟩
noncomputable def q510 (_ : Params) : Obj := ⟨.type "code", none, (.fields #[.str (S "_iter_straight_packed") 1151, .str (S "Reader._iter_straight_packed") 1152, .str (S "/claim/cut.py") 1153, .int (414) 0, .int (2) 0, .int (0) 0, .int (0) 0, .int (35) 0, .ref 505, .bool true, .int (429) 0, .ref 506, .none, .ref 507, .ref 508, .ref 509, .int (1162) 0, .int (414) 0, .str (S "/claim/cut.py") 1163]), #[]⟩
noncomputable def q511 (_ : Params) : Obj := ⟨.type "function", none, (.func { name := (S "_iter_straight_packed"), qualname := (S "Reader._iter_straight_packed"), params := argsS (clsS 30 8), body := .stmts (bodyS (clsS 30 8)), scope := scopeS (clsS 30 8), globals := 3, closure := [], defaults := .none, kwdefaults := .none, doc := .str (docS (bodyS (clsS 30 8))) 1164, pyModule := .str (S "pypng.png") 1036, annotations := none, code := .ref 510, closureTuple := .none, builtins := 0 }), #[]⟩
noncomputable def q512 (_ : Params) : Obj := ⟨.type "tuple", none, (.seq #[] 0), #[]⟩
noncomputable def q513 (_ : Params) : Obj := ⟨.none, none, (.fields #[]), #[]⟩
noncomputable def q514 (_ : Params) : Obj := ⟨.type "tuple", none, (.seq #[.str (S "self") 1169] 0), #[]⟩
noncomputable def q515 (_ : Params) : Obj := ⟨.type "tuple", none, (.seq #[] 0), #[]⟩
noncomputable def q516 (_ : Params) : Obj := ⟨.none, none, (.func { name := (S "validate_signature"), qualname := (S "Reader.validate_signature"), params := argsS (clsS 30 9), body := .stmts (bodyS (clsS 30 9)), scope := scopeS (clsS 30 9), globals := 0, closure := [], defaults := .none, kwdefaults := .none, doc := .none, pyModule := .none, annotations := none, code := .none, closureTuple := .none, builtins := 0 }), #[]⟩
noncomputable def q517 (_ : Params) : Obj := ⟨.type "code", none, (.fields #[.str (S "validate_signature") 1166, .str (S "Reader.validate_signature") 1167, .str (S "/claim/cut.py") 1168, .int (436) 0, .int (1) 0, .int (0) 0, .int (0) 0, .int (3) 0, .ref 512, .bool true, .int (429) 0, .ref 513, .none, .ref 514, .ref 515, .ref 516, .int (1170) 0, .int (436) 0, .str (S "/claim/cut.py") 1171]), #[]⟩
noncomputable def q518 (_ : Params) : Obj := ⟨.type "function", none, (.func { name := (S "validate_signature"), qualname := (S "Reader.validate_signature"), params := argsS (clsS 30 9), body := .stmts (bodyS (clsS 30 9)), scope := scopeS (clsS 30 9), globals := 3, closure := [], defaults := .none, kwdefaults := .none, doc := .str (docS (bodyS (clsS 30 9))) 1172, pyModule := .str (S "pypng.png") 1036, annotations := none, code := .ref 517, closureTuple := .none, builtins := 0 }), #[]⟩
noncomputable def q519 (_ : Params) : Obj := ⟨.type "tuple", none, (.seq #[.bool false] 0), #[]⟩
noncomputable def q520 (_ : Params) : Obj := ⟨.type "tuple", none, (.seq #[] 0), #[]⟩
noncomputable def q521 (_ : Params) : Obj := ⟨.none, none, (.fields #[]), #[]⟩
noncomputable def q522 (_ : Params) : Obj := ⟨.type "tuple", none, (.seq #[.str (S "self") 1177, .str (S "lenient") 1178] 0), #[]⟩
noncomputable def q523 (_ : Params) : Obj := ⟨.type "tuple", none, (.seq #[] 0), #[]⟩
noncomputable def q524 (_ : Params) : Obj := ⟨.none, none, (.func { name := (S "preamble"), qualname := (S "Reader.preamble"), params := argsS (clsS 30 10), body := .stmts (bodyS (clsS 30 10)), scope := scopeS (clsS 30 10), globals := 0, closure := [], defaults := .none, kwdefaults := .none, doc := .none, pyModule := .none, annotations := none, code := .none, closureTuple := .none, builtins := 0 }), #[]⟩
noncomputable def q525 (_ : Params) : Obj := ⟨.type "code", none, (.fields #[.str (S "preamble") 1174, .str (S "Reader.preamble") 1175, .str (S "/claim/cut.py") 1176, .int (455) 0, .int (2) 0, .int (0) 0, .int (0) 0, .int (3) 0, .ref 520, .bool true, .int (429) 0, .ref 521, .none, .ref 522, .ref 523, .ref 524, .int (1179) 0, .int (455) 0, .str (S "/claim/cut.py") 1180]), #[]⟩
noncomputable def q526 (_ : Params) : Obj := ⟨.type "function", none, (.func { name := (S "preamble"), qualname := (S "Reader.preamble"), params := argsS (clsS 30 10), body := .stmts (bodyS (clsS 30 10)), scope := scopeS (clsS 30 10), globals := 3, closure := [], defaults := .ref 519, kwdefaults := .none, doc := .str (docS (bodyS (clsS 30 10))) 1181, pyModule := .str (S "pypng.png") 1036, annotations := none, code := .ref 525, closureTuple := .none, builtins := 0 }), #[]⟩
noncomputable def q527 (_ : Params) : Obj := ⟨.type "tuple", none, (.seq #[] 0), #[]⟩
noncomputable def q528 (_ : Params) : Obj := ⟨.none, none, (.fields #[]), #[]⟩
noncomputable def q529 (_ : Params) : Obj := ⟨.type "tuple", none, (.seq #[.str (S "self") 1186, .str (S "x") 1187, .str (S "length") 1188, .str (S "kind") 1189, .str (S "type_bytes") 1190] 0), #[]⟩
noncomputable def q530 (_ : Params) : Obj := ⟨.type "tuple", none, (.seq #[] 0), #[]⟩
noncomputable def q531 (_ : Params) : Obj := ⟨.none, none, (.func { name := (S "_chunk_len_type"), qualname := (S "Reader._chunk_len_type"), params := argsS (clsS 30 11), body := .stmts (bodyS (clsS 30 11)), scope := scopeS (clsS 30 11), globals := 0, closure := [], defaults := .none, kwdefaults := .none, doc := .none, pyModule := .none, annotations := none, code := .none, closureTuple := .none, builtins := 0 }), #[]⟩
noncomputable def q532 (_ : Params) : Obj := ⟨.type "code", none, (.fields #[.str (S "_chunk_len_type") 1183, .str (S "Reader._chunk_len_type") 1184, .str (S "/claim/cut.py") 1185, .int (476) 0, .int (1) 0, .int (0) 0, .int (0) 0, .int (3) 0, .ref 527, .bool true, .int (429) 0, .ref 528, .none, .ref 529, .ref 530, .ref 531, .int (1191) 0, .int (476) 0, .str (S "/claim/cut.py") 1192]), #[]⟩
noncomputable def q533 (_ : Params) : Obj := ⟨.type "function", none, (.func { name := (S "_chunk_len_type"), qualname := (S "Reader._chunk_len_type"), params := argsS (clsS 30 11), body := .stmts (bodyS (clsS 30 11)), scope := scopeS (clsS 30 11), globals := 3, closure := [], defaults := .none, kwdefaults := .none, doc := .str (docS (bodyS (clsS 30 11))) 1193, pyModule := .str (S "pypng.png") 1036, annotations := none, code := .ref 532, closureTuple := .none, builtins := 0 }), #[]⟩
noncomputable def q534 (_ : Params) : Obj := ⟨.type "tuple", none, (.seq #[.bool false] 0), #[]⟩
noncomputable def q535 (_ : Params) : Obj := ⟨.type "tuple", none, (.seq #[] 0), #[]⟩
noncomputable def q536 (_ : Params) : Obj := ⟨.none, none, (.fields #[]), #[]⟩
noncomputable def q537 (_ : Params) : Obj := ⟨.type "tuple", none, (.seq #[.str (S "self") 1198, .str (S "lenient") 1199, .str (S "kind") 1200, .str (S "data") 1201, .str (S "method") 1202, .str (S "m") 1203] 0), #[]⟩
noncomputable def q538 (_ : Params) : Obj := ⟨.type "tuple", none, (.seq #[] 0), #[]⟩
noncomputable def q539 (_ : Params) : Obj := ⟨.none, none, (.func { name := (S "process_chunk"), qualname := (S "Reader.process_chunk"), params := argsS (clsS 30 12), body := .stmts (bodyS (clsS 30 12)), scope := scopeS (clsS 30 12), globals := 0, closure := [], defaults := .none, kwdefaults := .none, doc := .none, pyModule := .none, annotations := none, code := .none, closureTuple := .none, builtins := 0 }), #[]⟩
noncomputable def q540 (_ : Params) : Obj := ⟨.type "code", none, (.fields #[.str (S "process_chunk") 1195, .str (S "Reader.process_chunk") 1196, .str (S "/claim/cut.py") 1197, .int (496) 0, .int (2) 0, .int (0) 0, .int (0) 0, .int (3) 0, .ref 535, .bool true, .int (429) 0, .ref 536, .none, .ref 537, .ref 538, .ref 539, .int (1204) 0, .int (496) 0, .str (S "/claim/cut.py") 1205]), #[]⟩
noncomputable def q541 (_ : Params) : Obj := ⟨.type "function", none, (.func { name := (S "process_chunk"), qualname := (S "Reader.process_chunk"), params := argsS (clsS 30 12), body := .stmts (bodyS (clsS 30 12)), scope := scopeS (clsS 30 12), globals := 3, closure := [], defaults := .ref 534, kwdefaults := .none, doc := .str (docS (bodyS (clsS 30 12))) 1206, pyModule := .str (S "pypng.png") 1036, annotations := none, code := .ref 540, closureTuple := .none, builtins := 0 }), #[]⟩
noncomputable def q542 (_ : Params) : Obj := ⟨.type "tuple", none, (.seq #[] 0), #[]⟩
noncomputable def q543 (_ : Params) : Obj := ⟨.none, none, (.fields #[]), #[]⟩
noncomputable def q544 (_ : Params) : Obj := ⟨.type "tuple", none, (.seq #[.str (S "self") 1211, .str (S "data") 1212] 0), #[]⟩
noncomputable def q545 (_ : Params) : Obj := ⟨.type "tuple", none, (.seq #[] 0), #[]⟩
noncomputable def q546 (_ : Params) : Obj := ⟨.none, none, (.func { name := (S "_process_IHDR"), qualname := (S "Reader._process_IHDR"), params := argsS (clsS 30 13), body := .stmts (bodyS (clsS 30 13)), scope := scopeS (clsS 30 13), globals := 0, closure := [], defaults := .none, kwdefaults := .none, doc := .none, pyModule := .none, annotations := none, code := .none, closureTuple := .none, builtins := 0 }), #[]⟩
noncomputable def q547 (_ : Params) : Obj := ⟨.type "code", none, (.fields #[.str (S "_process_IHDR") 1208, .str (S "Reader._process_IHDR") 1209, .str (S "/claim/cut.py") 1210, .int (512) 0, .int (2) 0, .int (0) 0, .int (0) 0, .int (3) 0, .ref 542, .bool true, .int (429) 0, .ref 543, .none, .ref 544, .ref 545, .ref 546, .int (1213) 0, .int (512) 0, .str (S "/claim/cut.py") 1214]), #[]⟩
noncomputable def q548 (_ : Params) : Obj := ⟨.type "function", none, (.func { name := (S "_process_IHDR"), qualname := (S "Reader._process_IHDR"), params := argsS (clsS 30 13), body := .stmts (bodyS (clsS 30 13)), scope := scopeS (clsS 30 13), globals := 3, closure := [], defaults := .none, kwdefaults := .none, doc := .none, pyModule := .str (S "pypng.png") 1036, annotations := none, code := .ref 547, closureTuple := .none, builtins := 0 }), #[]⟩
noncomputable def q549 (_ : Params) : Obj := ⟨.type "tuple", none, (.seq #[] 0), #[]⟩
noncomputable def q550 (_ : Params) : Obj := ⟨.none, none, (.fields #[]), #[]⟩
noncomputable def q551 (_ : Params) : Obj := ⟨.type "tuple", none, (.seq #[.str (S "self") 1219, .str (S "data") 1220] 0), #[]⟩
noncomputable def q552 (_ : Params) : Obj := ⟨.type "tuple", none, (.seq #[] 0), #[]⟩
noncomputable def q553 (_ : Params) : Obj := ⟨.none, none, (.func { name := (S "_process_PLTE"), qualname := (S "Reader._process_PLTE"), params := argsS (clsS 30 14), body := .stmts (bodyS (clsS 30 14)), scope := scopeS (clsS 30 14), globals := 0, closure := [], defaults := .none, kwdefaults := .none, doc := .none, pyModule := .none, annotations := none, code := .none, closureTuple := .none, builtins := 0 }), #[]⟩
noncomputable def q554 (_ : Params) : Obj := ⟨.type "code", none, (.fields #[.str (S "_process_PLTE") 1216, .str (S "Reader._process_PLTE") 1217, .str (S "/claim/cut.py") 1218, .int (515) 0, .int (2) 0, .int (0) 0, .int (0) 0, .int (3) 0, .ref 549, .bool true, .int (429) 0, .ref 550, .none, .ref 551, .ref 552, .ref 553, .int (1221) 0, .int (515) 0, .str (S "/claim/cut.py") 1222]), #[]⟩
noncomputable def q555 (_ : Params) : Obj := ⟨.type "function", none, (.func { name := (S "_process_PLTE"), qualname := (S "Reader._process_PLTE"), params := argsS (clsS 30 14), body := .stmts (bodyS (clsS 30 14)), scope := scopeS (clsS 30 14), globals := 3, closure := [], defaults := .none, kwdefaults := .none, doc := .none, pyModule := .str (S "pypng.png") 1036, annotations := none, code := .ref 554, closureTuple := .none, builtins := 0 }), #[]⟩
noncomputable def q556 (_ : Params) : Obj := ⟨.type "tuple", none, (.seq #[] 0), #[]⟩
noncomputable def q557 (_ : Params) : Obj := ⟨.none, none, (.fields #[]), #[]⟩
noncomputable def q558 (_ : Params) : Obj := ⟨.type "tuple", none, (.seq #[.str (S "self") 1227, .str (S "data") 1228] 0), #[]⟩
noncomputable def q559 (_ : Params) : Obj := ⟨.type "tuple", none, (.seq #[] 0), #[]⟩
noncomputable def q560 (_ : Params) : Obj := ⟨.none, none, (.func { name := (S "_process_bKGD"), qualname := (S "Reader._process_bKGD"), params := argsS (clsS 30 15), body := .stmts (bodyS (clsS 30 15)), scope := scopeS (clsS 30 15), globals := 0, closure := [], defaults := .none, kwdefaults := .none, doc := .none, pyModule := .none, annotations := none, code := .none, closureTuple := .none, builtins := 0 }), #[]⟩
noncomputable def q561 (_ : Params) : Obj := ⟨.type "code", none, (.fields #[.str (S "_process_bKGD") 1224, .str (S "Reader._process_bKGD") 1225, .str (S "/claim/cut.py") 1226, .int (518) 0, .int (2) 0, .int (0) 0, .int (0) 0, .int (3) 0, .ref 556, .bool true, .int (429) 0, .ref 557, .none, .ref 558, .ref 559, .ref 560, .int (1229) 0, .int (518) 0, .str (S "/claim/cut.py") 1230]), #[]⟩
noncomputable def q562 (_ : Params) : Obj := ⟨.type "function", none, (.func { name := (S "_process_bKGD"), qualname := (S "Reader._process_bKGD"), params := argsS (clsS 30 15), body := .stmts (bodyS (clsS 30 15)), scope := scopeS (clsS 30 15), globals := 3, closure := [], defaults := .none, kwdefaults := .none, doc := .none, pyModule := .str (S "pypng.png") 1036, annotations := none, code := .ref 561, closureTuple := .none, builtins := 0 }), #[]⟩
noncomputable def q563 (_ : Params) : Obj := ⟨.type "tuple", none, (.seq #[] 0), #[]⟩
noncomputable def q564 (_ : Params) : Obj := ⟨.none, none, (.fields #[]), #[]⟩
noncomputable def q565 (_ : Params) : Obj := ⟨.type "tuple", none, (.seq #[.str (S "self") 1235, .str (S "data") 1236] 0), #[]⟩
noncomputable def q566 (_ : Params) : Obj := ⟨.type "tuple", none, (.seq #[] 0), #[]⟩
noncomputable def q567 (_ : Params) : Obj := ⟨.none, none, (.func { name := (S "_process_tRNS"), qualname := (S "Reader._process_tRNS"), params := argsS (clsS 30 16), body := .stmts (bodyS (clsS 30 16)), scope := scopeS (clsS 30 16), globals := 0, closure := [], defaults := .none, kwdefaults := .none, doc := .none, pyModule := .none, annotations := none, code := .none, closureTuple := .none, builtins := 0 }), #[]⟩
noncomputable def q568 (_ : Params) : Obj := ⟨.type "code", none, (.fields #[.str (S "_process_tRNS") 1232, .str (S "Reader._process_tRNS") 1233, .str (S "/claim/cut.py") 1234, .int (521) 0, .int (2) 0, .int (0) 0, .int (0) 0, .int (3) 0, .ref 563, .bool true, .int (429) 0, .ref 564, .none, .ref 565, .ref 566, .ref 567, .int (1237) 0, .int (521) 0, .str (S "/claim/cut.py") 1238]), #[]⟩
noncomputable def q569 (_ : Params) : Obj := ⟨.type "function", none, (.func { name := (S "_process_tRNS"), qualname := (S "Reader._process_tRNS"), params := argsS (clsS 30 16), body := .stmts (bodyS (clsS 30 16)), scope := scopeS (clsS 30 16), globals := 3, closure := [], defaults := .none, kwdefaults := .none, doc := .none, pyModule := .str (S "pypng.png") 1036, annotations := none, code := .ref 568, closureTuple := .none, builtins := 0 }), #[]⟩
noncomputable def q570 (_ : Params) : Obj := ⟨.type "tuple", none, (.seq #[] 0), #[]⟩
noncomputable def q571 (_ : Params) : Obj := ⟨.none, none, (.fields #[]), #[]⟩
noncomputable def q572 (_ : Params) : Obj := ⟨.type "tuple", none, (.seq #[.str (S "self") 1243, .str (S "data") 1244] 0), #[]⟩
noncomputable def q573 (_ : Params) : Obj := ⟨.type "tuple", none, (.seq #[] 0), #[]⟩
noncomputable def q574 (_ : Params) : Obj := ⟨.none, none, (.func { name := (S "_process_sBIT"), qualname := (S "Reader._process_sBIT"), params := argsS (clsS 30 17), body := .stmts (bodyS (clsS 30 17)), scope := scopeS (clsS 30 17), globals := 0, closure := [], defaults := .none, kwdefaults := .none, doc := .none, pyModule := .none, annotations := none, code := .none, closureTuple := .none, builtins := 0 }), #[]⟩
noncomputable def q575 (_ : Params) : Obj := ⟨.type "code", none, (.fields #[.str (S "_process_sBIT") 1240, .str (S "Reader._process_sBIT") 1241, .str (S "/claim/cut.py") 1242, .int (524) 0, .int (2) 0, .int (0) 0, .int (0) 0, .int (3) 0, .ref 570, .bool true, .int (429) 0, .ref 571, .none, .ref 572, .ref 573, .ref 574, .int (1245) 0, .int (524) 0, .str (S "/claim/cut.py") 1246]), #[]⟩
noncomputable def q576 (_ : Params) : Obj := ⟨.type "function", none, (.func { name := (S "_process_sBIT"), qualname := (S "Reader._process_sBIT"), params := argsS (clsS 30 17), body := .stmts (bodyS (clsS 30 17)), scope := scopeS (clsS 30 17), globals := 3, closure := [], defaults := .none, kwdefaults := .none, doc := .none, pyModule := .str (S "pypng.png") 1036, annotations := none, code := .ref 575, closureTuple := .none, builtins := 0 }), #[]⟩
noncomputable def q577 (_ : Params) : Obj := ⟨.type "tuple", none, (.seq #[] 0), #[]⟩
noncomputable def q578 (_ : Params) : Obj := ⟨.none, none, (.fields #[]), #[]⟩
noncomputable def q579 (_ : Params) : Obj := ⟨.type "tuple", none, (.seq #[.str (S "self") 1251, .str (S "data") 1252] 0), #[]⟩
noncomputable def q580 (_ : Params) : Obj := ⟨.type "tuple", none, (.seq #[] 0), #[]⟩
noncomputable def q581 (_ : Params) : Obj := ⟨.none, none, (.func { name := (S "_process_pHYs"), qualname := (S "Reader._process_pHYs"), params := argsS (clsS 30 18), body := .stmts (bodyS (clsS 30 18)), scope := scopeS (clsS 30 18), globals := 0, closure := [], defaults := .none, kwdefaults := .none, doc := .none, pyModule := .none, annotations := none, code := .none, closureTuple := .none, builtins := 0 }), #[]⟩
noncomputable def q582 (_ : Params) : Obj := ⟨.type "code", none, (.fields #[.str (S "_process_pHYs") 1248, .str (S "Reader._process_pHYs") 1249, .str (S "/claim/cut.py") 1250, .int (527) 0, .int (2) 0, .int (0) 0, .int (0) 0, .int (3) 0, .ref 577, .bool true, .int (429) 0, .ref 578, .none, .ref 579, .ref 580, .ref 581, .int (1253) 0, .int (527) 0, .str (S "/claim/cut.py") 1254]), #[]⟩
noncomputable def q583 (_ : Params) : Obj := ⟨.type "function", none, (.func { name := (S "_process_pHYs"), qualname := (S "Reader._process_pHYs"), params := argsS (clsS 30 18), body := .stmts (bodyS (clsS 30 18)), scope := scopeS (clsS 30 18), globals := 3, closure := [], defaults := .none, kwdefaults := .none, doc := .none, pyModule := .str (S "pypng.png") 1036, annotations := none, code := .ref 582, closureTuple := .none, builtins := 0 }), #[]⟩
noncomputable def q584 (_ : Params) : Obj := ⟨.type "tuple", none, (.seq #[.bool false] 0), #[]⟩
noncomputable def q585 (_ : Params) : Obj := ⟨.type "tuple", none, (.seq #[] 0), #[]⟩
noncomputable def q586 (_ : Params) : Obj := ⟨.none, none, (.fields #[]), #[]⟩
noncomputable def q587 (_ : Params) : Obj := ⟨.type "tuple", none, (.seq #[.str (S "self") 1259, .str (S "lenient") 1260, .str (S "iteridat") 1261, .str (S "rows_from_interlace") 1262, .str (S "rows") 1263, .str (S "info") 1264, .str (S "attr") 1265, .str (S "a") 1266] 0), #[]⟩
noncomputable def q588 (_ : Params) : Obj := ⟨.type "tuple", none, (.seq #[.str (S "self") 1267, .str (S "lenient") 1268, .str (S "raw") 1269] 0), #[]⟩
noncomputable def q589 (_ : Params) : Obj := ⟨.none, none, (.func { name := (S "read"), qualname := (S "Reader.read"), params := argsS (clsS 30 19), body := .stmts (bodyS (clsS 30 19)), scope := scopeS (clsS 30 19), globals := 0, closure := [], defaults := .none, kwdefaults := .none, doc := .none, pyModule := .none, annotations := none, code := .none, closureTuple := .none, builtins := 0 }), #[]⟩
noncomputable def q590 (_ : Params) : Obj := ⟨.type "code", none, (.fields #[.str (S "read") 1256, .str (S "Reader.read") 1257, .str (S "/claim/cut.py") 1258, .int (530) 0, .int (2) 0, .int (0) 0, .int (0) 0, .int (3) 0, .ref 585, .bool true, .int (429) 0, .ref 586, .none, .ref 587, .ref 588, .ref 589, .int (1270) 0, .int (530) 0, .str (S "/claim/cut.py") 1271]), #[]⟩
noncomputable def q591 (_ : Params) : Obj := ⟨.type "function", none, (.func { name := (S "read"), qualname := (S "Reader.read"), params := argsS (clsS 30 19), body := .stmts (bodyS (clsS 30 19)), scope := scopeS (clsS 30 19), globals := 3, closure := [], defaults := .ref 584, kwdefaults := .none, doc := .str (docS (bodyS (clsS 30 19))) 1272, pyModule := .str (S "pypng.png") 1036, annotations := none, code := .ref 590, closureTuple := .none, builtins := 0 }), #[]⟩
noncomputable def q592 (_ : Params) : Obj := ⟨.type "tuple", none, (.seq #[] 0), #[]⟩
noncomputable def q593 (_ : Params) : Obj := ⟨.none, none, (.fields #[]), #[]⟩
noncomputable def q594 (_ : Params) : Obj := ⟨.type "tuple", none, (.seq #[.str (S "self") 1277] 0), #[]⟩
noncomputable def q595 (_ : Params) : Obj := ⟨.type "tuple", none, (.seq #[] 0), #[]⟩
noncomputable def q596 (_ : Params) : Obj := ⟨.none, none, (.func { name := (S "read_flat"), qualname := (S "Reader.read_flat"), params := argsS (clsS 30 20), body := .stmts (bodyS (clsS 30 20)), scope := scopeS (clsS 30 20), globals := 0, closure := [], defaults := .none, kwdefaults := .none, doc := .none, pyModule := .none, annotations := none, code := .none, closureTuple := .none, builtins := 0 }), #[]⟩
noncomputable def q597 (_ : Params) : Obj := ⟨.type "code", none, (.fields #[.str (S "read_flat") 1274, .str (S "Reader.read_flat") 1275, .str (S "/claim/cut.py") 1276, .int (585) 0, .int (1) 0, .int (0) 0, .int (0) 0, .int (3) 0, .ref 592, .bool true, .int (429) 0, .ref 593, .none, .ref 594, .ref 595, .ref 596, .int (1278) 0, .int (585) 0, .str (S "/claim/cut.py") 1279]), #[]⟩
noncomputable def q598 (_ : Params) : Obj := ⟨.type "function", none, (.func { name := (S "read_flat"), qualname := (S "Reader.read_flat"), params := argsS (clsS 30 20), body := .stmts (bodyS (clsS 30 20)), scope := scopeS (clsS 30 20), globals := 3, closure := [], defaults := .none, kwdefaults := .none, doc := .none, pyModule := .str (S "pypng.png") 1036, annotations := none, code := .ref 597, closureTuple := .none, builtins := 0 }), #[]⟩
noncomputable def q599 (_ : Params) : Obj := ⟨.type "tuple", none, (.seq #[.str (S "natural") 1281] 0), #[]⟩
noncomputable def q600 (_ : Params) : Obj := ⟨.type "tuple", none, (.seq #[] 0), #[]⟩
noncomputable def q601 (_ : Params) : Obj := ⟨.none, none, (.fields #[]), #[]⟩
noncomputable def q602 (_ : Params) : Obj := ⟨.type "tuple", none, (.seq #[.str (S "self") 1285, .str (S "alpha") 1286, .str (S "plte") 1287, .str (S "trns") 1288] 0), #[]⟩
noncomputable def q603 (_ : Params) : Obj := ⟨.type "tuple", none, (.seq #[] 0), #[]⟩
noncomputable def q604 (_ : Params) : Obj := ⟨.none, none, (.func { name := (S "palette"), qualname := (S "Reader.palette"), params := argsS (clsS 30 21), body := .stmts (bodyS (clsS 30 21)), scope := scopeS (clsS 30 21), globals := 0, closure := [], defaults := .none, kwdefaults := .none, doc := .none, pyModule := .none, annotations := none, code := .none, closureTuple := .none, builtins := 0 }), #[]⟩
noncomputable def q605 (_ : Params) : Obj := ⟨.type "code", none, (.fields #[.str (S "palette") 1282, .str (S "Reader.palette") 1283, .str (S "/claim/cut.py") 1284, .int (588) 0, .int (2) 0, .int (0) 0, .int (0) 0, .int (3) 0, .ref 600, .bool true, .int (429) 0, .ref 601, .none, .ref 602, .ref 603, .ref 604, .int (1289) 0, .int (588) 0, .str (S "/claim/cut.py") 1290]), #[]⟩
noncomputable def q606 (_ : Params) : Obj := ⟨.type "function", none, (.func { name := (S "palette"), qualname := (S "Reader.palette"), params := argsS (clsS 30 21), body := .stmts (bodyS (clsS 30 21)), scope := scopeS (clsS 30 21), globals := 3, closure := [], defaults := .ref 599, kwdefaults := .none, doc := .str (docS (bodyS (clsS 30 21))) 1291, pyModule := .str (S "pypng.png") 1036, annotations := none, code := .ref 605, closureTuple := .none, builtins := 0 }), #[]⟩
noncomputable def q607 (_ : Params) : Obj := ⟨.type "tuple", none, (.seq #[] 0), #[]⟩
noncomputable def q608 (_ : Params) : Obj := ⟨.none, none, (.fields #[]), #[]⟩
noncomputable def q609 (_ : Params) : Obj := ⟨.type "tuple", none, (.seq #[.str (S "self") 1296] 0), #[]⟩
noncomputable def q610 (_ : Params) : Obj := ⟨.type "tuple", none, (.seq #[] 0), #[]⟩
noncomputable def q611 (_ : Params) : Obj := ⟨.none, none, (.func { name := (S "asDirect"), qualname := (S "Reader.asDirect"), params := argsS (clsS 30 22), body := .stmts (bodyS (clsS 30 22)), scope := scopeS (clsS 30 22), globals := 0, closure := [], defaults := .none, kwdefaults := .none, doc := .none, pyModule := .none, annotations := none, code := .none, closureTuple := .none, builtins := 0 }), #[]⟩
noncomputable def q612 (_ : Params) : Obj := ⟨.type "code", none, (.fields #[.str (S "asDirect") 1293, .str (S "Reader.asDirect") 1294, .str (S "/claim/cut.py") 1295, .int (613) 0, .int (1) 0, .int (0) 0, .int (0) 0, .int (3) 0, .ref 607, .bool true, .int (429) 0, .ref 608, .none, .ref 609, .ref 610, .ref 611, .int (1297) 0, .int (613) 0, .str (S "/claim/cut.py") 1298]), #[]⟩
noncomputable def q613 (_ : Params) : Obj := ⟨.type "function", none, (.func { name := (S "asDirect"), qualname := (S "Reader.asDirect"), params := argsS (clsS 30 22), body := .stmts (bodyS (clsS 30 22)), scope := scopeS (clsS 30 22), globals := 3, closure := [], defaults := .none, kwdefaults := .none, doc := .none, pyModule := .str (S "pypng.png") 1036, annotations := none, code := .ref 612, closureTuple := .none, builtins := 0 }), #[]⟩
noncomputable def q614 (_ : Params) : Obj := ⟨.type "tuple", none, (.seq #[] 0), #[]⟩
noncomputable def q615 (_ : Params) : Obj := ⟨.none, none, (.fields #[]), #[]⟩
noncomputable def q616 (_ : Params) : Obj := ⟨.type "tuple", none, (.seq #[.str (S "self") 1303, .str (S "get") 1304, .str (S "targetbitdepth") 1305] 0), #[]⟩
noncomputable def q617 (_ : Params) : Obj := ⟨.type "tuple", none, (.seq #[] 0), #[]⟩
noncomputable def q618 (_ : Params) : Obj := ⟨.none, none, (.func { name := (S "_as_rescale"), qualname := (S "Reader._as_rescale"), params := argsS (clsS 30 23), body := .stmts (bodyS (clsS 30 23)), scope := scopeS (clsS 30 23), globals := 0, closure := [], defaults := .none, kwdefaults := .none, doc := .none, pyModule := .none, annotations := none, code := .none, closureTuple := .none, builtins := 0 }), #[]⟩
noncomputable def q619 (_ : Params) : Obj := ⟨.type "code", none, (.fields #[.str (S "_as_rescale") 1300, .str (S "Reader._as_rescale") 1301, .str (S "/claim/cut.py") 1302, .int (616) 0, .int (3) 0, .int (0) 0, .int (0) 0, .int (3) 0, .ref 614, .bool true, .int (429) 0, .ref 615, .none, .ref 616, .ref 617, .ref 618, .int (1306) 0, .int (616) 0, .str (S "/claim/cut.py") 1307]), #[]⟩
noncomputable def q620 (_ : Params) : Obj := ⟨.type "function", none, (.func { name := (S "_as_rescale"), qualname := (S "Reader._as_rescale"), params := argsS (clsS 30 23), body := .stmts (bodyS (clsS 30 23)), scope := scopeS (clsS 30 23), globals := 3, closure := [], defaults := .none, kwdefaults := .none, doc := .none, pyModule := .str (S "pypng.png") 1036, annotations := none, code := .ref 619, closureTuple := .none, builtins := 0 }), #[]⟩
noncomputable def q621 (_ : Params) : Obj := ⟨.type "tuple", none, (.seq #[] 0), #[]⟩
noncomputable def q622 (_ : Params) : Obj := ⟨.none, none, (.fields #[]), #[]⟩
noncomputable def q623 (_ : Params) : Obj := ⟨.type "tuple", none, (.seq #[.str (S "self") 1312] 0), #[]⟩
noncomputable def q624 (_ : Params) : Obj := ⟨.type "tuple", none, (.seq #[] 0), #[]⟩
noncomputable def q625 (_ : Params) : Obj := ⟨.none, none, (.func { name := (S "asRGB8"), qualname := (S "Reader.asRGB8"), params := argsS (clsS 30 24), body := .stmts (bodyS (clsS 30 24)), scope := scopeS (clsS 30 24), globals := 0, closure := [], defaults := .none, kwdefaults := .none, doc := .none, pyModule := .none, annotations := none, code := .none, closureTuple := .none, builtins := 0 }), #[]⟩
noncomputable def q626 (_ : Params) : Obj := ⟨.type "code", none, (.fields #[.str (S "asRGB8") 1309, .str (S "Reader.asRGB8") 1310, .str (S "/claim/cut.py") 1311, .int (619) 0, .int (1) 0, .int (0) 0, .int (0) 0, .int (3) 0, .ref 621, .bool true, .int (429) 0, .ref 622, .none, .ref 623, .ref 624, .ref 625, .int (1313) 0, .int (619) 0, .str (S "/claim/cut.py") 1314]), #[]⟩
noncomputable def q627 (_ : Params) : Obj := ⟨.type "function", none, (.func { name := (S "asRGB8"), qualname := (S "Reader.asRGB8"), params := argsS (clsS 30 24), body := .stmts (bodyS (clsS 30 24)), scope := scopeS (clsS 30 24), globals := 3, closure := [], defaults := .none, kwdefaults := .none, doc := .none, pyModule := .str (S "pypng.png") 1036, annotations := none, code := .ref 626, closureTuple := .none, builtins := 0 }), #[]⟩
noncomputable def q628 (_ : Params) : Obj := ⟨.type "tuple", none, (.seq #[] 0), #[]⟩
noncomputable def q629 (_ : Params) : Obj := ⟨.none, none, (.fields #[]), #[]⟩
noncomputable def q630 (_ : Params) : Obj := ⟨.type "tuple", none, (.seq #[.str (S "self") 1319] 0), #[]⟩
noncomputable def q631 (_ : Params) : Obj := ⟨.type "tuple", none, (.seq #[] 0), #[]⟩
noncomputable def q632 (_ : Params) : Obj := ⟨.none, none, (.func { name := (S "asRGBA8"), qualname := (S "Reader.asRGBA8"), params := argsS (clsS 30 25), body := .stmts (bodyS (clsS 30 25)), scope := scopeS (clsS 30 25), globals := 0, closure := [], defaults := .none, kwdefaults := .none, doc := .none, pyModule := .none, annotations := none, code := .none, closureTuple := .none, builtins := 0 }), #[]⟩
noncomputable def q633 (_ : Params) : Obj := ⟨.type "code", none, (.fields #[.str (S "asRGBA8") 1316, .str (S "Reader.asRGBA8") 1317, .str (S "/claim/cut.py") 1318, .int (622) 0, .int (1) 0, .int (0) 0, .int (0) 0, .int (3) 0, .ref 628, .bool true, .int (429) 0, .ref 629, .none, .ref 630, .ref 631, .ref 632, .int (1320) 0, .int (622) 0, .str (S "/claim/cut.py") 1321]), #[]⟩
noncomputable def q634 (_ : Params) : Obj := ⟨.type "function", none, (.func { name := (S "asRGBA8"), qualname := (S "Reader.asRGBA8"), params := argsS (clsS 30 25), body := .stmts (bodyS (clsS 30 25)), scope := scopeS (clsS 30 25), globals := 3, closure := [], defaults := .none, kwdefaults := .none, doc := .none, pyModule := .str (S "pypng.png") 1036, annotations := none, code := .ref 633, closureTuple := .none, builtins := 0 }), #[]⟩
noncomputable def q635 (_ : Params) : Obj := ⟨.type "tuple", none, (.seq #[] 0), #[]⟩
noncomputable def q636 (_ : Params) : Obj := ⟨.none, none, (.fields #[]), #[]⟩
noncomputable def q637 (_ : Params) : Obj := ⟨.type "tuple", none, (.seq #[.str (S "self") 1326] 0), #[]⟩
noncomputable def q638 (_ : Params) : Obj := ⟨.type "tuple", none, (.seq #[] 0), #[]⟩
noncomputable def q639 (_ : Params) : Obj := ⟨.none, none, (.func { name := (S "asRGB"), qualname := (S "Reader.asRGB"), params := argsS (clsS 30 26), body := .stmts (bodyS (clsS 30 26)), scope := scopeS (clsS 30 26), globals := 0, closure := [], defaults := .none, kwdefaults := .none, doc := .none, pyModule := .none, annotations := none, code := .none, closureTuple := .none, builtins := 0 }), #[]⟩
noncomputable def q640 (_ : Params) : Obj := ⟨.type "code", none, (.fields #[.str (S "asRGB") 1323, .str (S "Reader.asRGB") 1324, .str (S "/claim/cut.py") 1325, .int (625) 0, .int (1) 0, .int (0) 0, .int (0) 0, .int (3) 0, .ref 635, .bool true, .int (429) 0, .ref 636, .none, .ref 637, .ref 638, .ref 639, .int (1327) 0, .int (625) 0, .str (S "/claim/cut.py") 1328]), #[]⟩
noncomputable def q641 (_ : Params) : Obj := ⟨.type "function", none, (.func { name := (S "asRGB"), qualname := (S "Reader.asRGB"), params := argsS (clsS 30 26), body := .stmts (bodyS (clsS 30 26)), scope := scopeS (clsS 30 26), globals := 3, closure := [], defaults := .none, kwdefaults := .none, doc := .none, pyModule := .str (S "pypng.png") 1036, annotations := none, code := .ref 640, closureTuple := .none, builtins := 0 }), #[]⟩
noncomputable def q642 (_ : Params) : Obj := ⟨.type "tuple", none, (.seq #[] 0), #[]⟩
noncomputable def q643 (_ : Params) : Obj := ⟨.none, none, (.fields #[]), #[]⟩
noncomputable def q644 (_ : Params) : Obj := ⟨.type "tuple", none, (.seq #[.str (S "self") 1333] 0), #[]⟩
noncomputable def q645 (_ : Params) : Obj := ⟨.type "tuple", none, (.seq #[] 0), #[]⟩
noncomputable def q646 (_ : Params) : Obj := ⟨.none, none, (.func { name := (S "asRGBA"), qualname := (S "Reader.asRGBA"), params := argsS (clsS 30 27), body := .stmts (bodyS (clsS 30 27)), scope := scopeS (clsS 30 27), globals := 0, closure := [], defaults := .none, kwdefaults := .none, doc := .none, pyModule := .none, annotations := none, code := .none, closureTuple := .none, builtins := 0 }), #[]⟩
noncomputable def q647 (_ : Params) : Obj := ⟨.type "code", none, (.fields #[.str (S "asRGBA") 1330, .str (S "Reader.asRGBA") 1331, .str (S "/claim/cut.py") 1332, .int (628) 0, .int (1) 0, .int (0) 0, .int (0) 0, .int (3) 0, .ref 642, .bool true, .int (429) 0, .ref 643, .none, .ref 644, .ref 645, .ref 646, .int (1334) 0, .int (628) 0, .str (S "/claim/cut.py") 1335]), #[]⟩
noncomputable def q648 (_ : Params) : Obj := ⟨.type "function", none, (.func { name := (S "asRGBA"), qualname := (S "Reader.asRGBA"), params := argsS (clsS 30 27), body := .stmts (bodyS (clsS 30 27)), scope := scopeS (clsS 30 27), globals := 3, closure := [], defaults := .none, kwdefaults := .none, doc := .none, pyModule := .str (S "pypng.png") 1036, annotations := none, code := .ref 647, closureTuple := .none, builtins := 0 }), #[]⟩
noncomputable def q649 (_ : Params) : Obj := ⟨.type "tuple", none, (.seq #[.str (S "atchunk") 1337, .str (S "file") 1338, .str (S "signature") 1339, .str (S "transparent") 1340] 0), #[]⟩
noncomputable def q650 (P : Params) : Obj := ⟨.type "dict", none, (.dict #[K P (S "__module__") 1045 (.str (S "pypng.png") 1036), K P (S "__firstlineno__") 1049 (.int (232) 1048), K P (S "__doc__") 1051 (.str (docS (bodyS (topS 30))) 1050), K P (S "__init__") 1065 (.ref 462), K P (S "chunk") 1082 (.ref 470), K P (S "chunks") 1092 (.ref 477), K P (S "undo_filter") 1106 (.ref 484), K P (S "_deinterlace") 1133 (.ref 491), K P (S "_iter_bytes_to_values") 1143 (.ref 498), K P (S "_bytes_to_values") 1150 (.ref 504), K P (S "_iter_straight_packed") 1165 (.ref 511), K P (S "validate_signature") 1173 (.ref 518), K P (S "preamble") 1182 (.ref 526), K P (S "_chunk_len_type") 1194 (.ref 533), K P (S "process_chunk") 1207 (.ref 541), K P (S "_process_IHDR") 1215 (.ref 548), K P (S "_process_PLTE") 1223 (.ref 555), K P (S "_process_bKGD") 1231 (.ref 562), K P (S "_process_tRNS") 1239 (.ref 569), K P (S "_process_sBIT") 1247 (.ref 576), K P (S "_process_pHYs") 1255 (.ref 583), K P (S "read") 1273 (.ref 591), K P (S "read_flat") 1280 (.ref 598), K P (S "palette") 1292 (.ref 606), K P (S "asDirect") 1299 (.ref 613), K P (S "_as_rescale") 1308 (.ref 620), K P (S "asRGB8") 1315 (.ref 627), K P (S "asRGBA8") 1322 (.ref 634), K P (S "asRGB") 1329 (.ref 641), K P (S "asRGBA") 1336 (.ref 648), K P (S "__static_attributes__") 1341 (.ref 649), K P (S "__dict__") 1343 (.ref 652), K P (S "__weakref__") 1345 (.ref 653)] 3), #[]⟩
noncomputable def q651 (_ : Params) : Obj := ⟨.type "type", none, (.cls { name := (S "Reader"), bases := [.type "object"], mro := [.ref 651, .type "object"], ns := 650, qualname := (S "Reader"), hasDict := true, slotNames := [], subclasses := [], abstract := false, collection := none, hasDel := false }), #[none, none, some (.str (S "Reader") 1038), some (.str (S "Reader") 1046), some (.builtin "object.__new__"), some (.bool true)]⟩
noncomputable def q652 (_ : Params) : Obj := ⟨.type "getset_descriptor", none, (.fields #[.str (S "__dict__") 1342, .ref 651, .builtin "function.__dict__", .builtin "function.__dict__#set"]), #[]⟩
noncomputable def q653 (_ : Params) : Obj := ⟨.type "getset_descriptor", none, (.fields #[.str (S "__weakref__") 1344, .ref 651, .builtin "ExceptionGroup.__weakref__", .none]), #[]⟩
noncomputable def q654 (_ : Params) : Obj := ⟨.type "super", none, (.fields #[.ref 651, .ref 651, .ref 651]), #[]⟩
noncomputable def q655 (_ : Params) : Obj := ⟨.type "builtin_function_or_method", none, (.fields #[.builtin "object.__init_subclass__", .ref 651]), #[]⟩
noncomputable def q656 (_ : Params) : Obj := ⟨.type "tuple", none, (.seq #[] 0), #[]⟩
noncomputable def q657 (_ : Params) : Obj := ⟨.none, none, (.fields #[]), #[]⟩
noncomputable def q658 (_ : Params) : Obj := ⟨.type "tuple", none, (.seq #[.str (S "data_blocks") 1351, .str (S "d") 1352, .str (S "data") 1353] 0), #[]⟩
noncomputable def q659 (_ : Params) : Obj := ⟨.type "tuple", none, (.seq #[] 0), #[]⟩
noncomputable def q660 (_ : Params) : Obj := ⟨.none, none, (.func { name := (S "decompress"), qualname := (S "decompress"), params := argsS (topS 31), body := .stmts (bodyS (topS 31)), scope := scopeS (topS 31), globals := 0, closure := [], defaults := .none, kwdefaults := .none, doc := .none, pyModule := .none, annotations := none, code := .none, closureTuple := .none, builtins := 0 }), #[]⟩
noncomputable def q661 (_ : Params) : Obj := ⟨.type "code", none, (.fields #[.str (S "decompress") 1348, .str (S "decompress") 1349, .str (S "/claim/cut.py") 1350, .int (630) 0, .int (1) 0, .int (0) 0, .int (0) 0, .int (35) 0, .ref 656, .bool true, .int (429) 0, .ref 657, .none, .ref 658, .ref 659, .ref 660, .int (1354) 0, .int (630) 0, .str (S "/claim/cut.py") 1355]), #[]⟩
noncomputable def q662 (_ : Params) : Obj := ⟨.type "function", none, (.func { name := (S "decompress"), qualname := (S "decompress"), params := argsS (topS 31), body := .stmts (bodyS (topS 31)), scope := scopeS (topS 31), globals := 3, closure := [], defaults := .none, kwdefaults := .none, doc := .str (docS (bodyS (topS 31))) 1356, pyModule := .str (S "pypng.png") 1036, annotations := none, code := .ref 661, closureTuple := .none, builtins := 0 }), #[]⟩
noncomputable def q663 (_ : Params) : Obj := ⟨.type "tuple", none, (.seq #[] 0), #[]⟩
noncomputable def q664 (_ : Params) : Obj := ⟨.none, none, (.fields #[]), #[]⟩
noncomputable def q665 (_ : Params) : Obj := ⟨.type "tuple", none, (.seq #[.str (S "filter_unit") 1361, .str (S "scanline") 1362, .str (S "previous") 1363, .str (S "result") 1364, .str (S "ai") 1365, .str (S "i") 1366, .str (S "x") 1367, .str (S "a") 1368] 0), #[]⟩
noncomputable def q666 (_ : Params) : Obj := ⟨.type "tuple", none, (.seq #[] 0), #[]⟩
noncomputable def q667 (_ : Params) : Obj := ⟨.none, none, (.func { name := (S "undo_filter_sub"), qualname := (S "undo_filter_sub"), params := argsS (topS 32), body := .stmts (bodyS (topS 32)), scope := scopeS (topS 32), globals := 0, closure := [], defaults := .none, kwdefaults := .none, doc := .none, pyModule := .none, annotations := none, code := .none, closureTuple := .none, builtins := 0 }), #[]⟩
noncomputable def q668 (_ : Params) : Obj := ⟨.type "code", none, (.fields #[.str (S "undo_filter_sub") 1358, .str (S "undo_filter_sub") 1359, .str (S "/claim/cut.py") 1360, .int (640) 0, .int (4) 0, .int (0) 0, .int (0) 0, .int (3) 0, .ref 663, .bool true, .int (429) 0, .ref 664, .none, .ref 665, .ref 666, .ref 667, .int (1369) 0, .int (640) 0, .str (S "/claim/cut.py") 1370]), #[]⟩
noncomputable def q669 (_ : Params) : Obj := ⟨.type "function", none, (.func { name := (S "undo_filter_sub"), qualname := (S "undo_filter_sub"), params := argsS (topS 32), body := .stmts (bodyS (topS 32)), scope := scopeS (topS 32), globals := 3, closure := [], defaults := .none, kwdefaults := .none, doc := .str (docS (bodyS (topS 32))) 1371, pyModule := .str (S "pypng.png") 1036, annotations := none, code := .ref 668, closureTuple := .none, builtins := 0 }), #[]⟩
noncomputable def q670 (_ : Params) : Obj := ⟨.type "tuple", none, (.seq #[] 0), #[]⟩
noncomputable def q671 (_ : Params) : Obj := ⟨.none, none, (.fields #[]), #[]⟩
noncomputable def q672 (_ : Params) : Obj := ⟨.type "tuple", none, (.seq #[.str (S "filter_unit") 1376, .str (S "scanline") 1377, .str (S "previous") 1378, .str (S "result") 1379, .str (S "i") 1380, .str (S "x") 1381, .str (S "b") 1382] 0), #[]⟩
noncomputable def q673 (_ : Params) : Obj := ⟨.type "tuple", none, (.seq #[] 0), #[]⟩
noncomputable def q674 (_ : Params) : Obj := ⟨.none, none, (.func { name := (S "undo_filter_up"), qualname := (S "undo_filter_up"), params := argsS (topS 33), body := .stmts (bodyS (topS 33)), scope := scopeS (topS 33), globals := 0, closure := [], defaults := .none, kwdefaults := .none, doc := .none, pyModule := .none, annotations := none, code := .none, closureTuple := .none, builtins := 0 }), #[]⟩
noncomputable def q675 (_ : Params) : Obj := ⟨.type "code", none, (.fields #[.str (S "undo_filter_up") 1373, .str (S "undo_filter_up") 1374, .str (S "/claim/cut.py") 1375, .int (648) 0, .int (4) 0, .int (0) 0, .int (0) 0, .int (3) 0, .ref 670, .bool true, .int (429) 0, .ref 671, .none, .ref 672, .ref 673, .ref 674, .int (1383) 0, .int (648) 0, .str (S "/claim/cut.py") 1384]), #[]⟩
noncomputable def q676 (_ : Params) : Obj := ⟨.type "function", none, (.func { name := (S "undo_filter_up"), qualname := (S "undo_filter_up"), params := argsS (topS 33), body := .stmts (bodyS (topS 33)), scope := scopeS (topS 33), globals := 3, closure := [], defaults := .none, kwdefaults := .none, doc := .str (docS (bodyS (topS 33))) 1385, pyModule := .str (S "pypng.png") 1036, annotations := none, code := .ref 675, closureTuple := .none, builtins := 0 }), #[]⟩
noncomputable def q677 (_ : Params) : Obj := ⟨.type "tuple", none, (.seq #[] 0), #[]⟩
noncomputable def q678 (_ : Params) : Obj := ⟨.none, none, (.fields #[]), #[]⟩
noncomputable def q679 (_ : Params) : Obj := ⟨.type "tuple", none, (.seq #[.str (S "filter_unit") 1390, .str (S "scanline") 1391, .str (S "previous") 1392, .str (S "result") 1393, .str (S "ai") 1394, .str (S "i") 1395, .str (S "x") 1396, .str (S "a") 1397, .str (S "b") 1398] 0), #[]⟩
noncomputable def q680 (_ : Params) : Obj := ⟨.type "tuple", none, (.seq #[] 0), #[]⟩
noncomputable def q681 (_ : Params) : Obj := ⟨.none, none, (.func { name := (S "undo_filter_average"), qualname := (S "undo_filter_average"), params := argsS (topS 34), body := .stmts (bodyS (topS 34)), scope := scopeS (topS 34), globals := 0, closure := [], defaults := .none, kwdefaults := .none, doc := .none, pyModule := .none, annotations := none, code := .none, closureTuple := .none, builtins := 0 }), #[]⟩
noncomputable def q682 (_ : Params) : Obj := ⟨.type "code", none, (.fields #[.str (S "undo_filter_average") 1387, .str (S "undo_filter_average") 1388, .str (S "/claim/cut.py") 1389, .int (654) 0, .int (4) 0, .int (0) 0, .int (0) 0, .int (3) 0, .ref 677, .bool true, .int (429) 0, .ref 678, .none, .ref 679, .ref 680, .ref 681, .int (1399) 0, .int (654) 0, .str (S "/claim/cut.py") 1400]), #[]⟩
noncomputable def q683 (_ : Params) : Obj := ⟨.type "function", none, (.func { name := (S "undo_filter_average"), qualname := (S "undo_filter_average"), params := argsS (topS 34), body := .stmts (bodyS (topS 34)), scope := scopeS (topS 34), globals := 3, closure := [], defaults := .none, kwdefaults := .none, doc := .str (docS (bodyS (topS 34))) 1401, pyModule := .str (S "pypng.png") 1036, annotations := none, code := .ref 682, closureTuple := .none, builtins := 0 }), #[]⟩
noncomputable def q684 (_ : Params) : Obj := ⟨.type "tuple", none, (.seq #[] 0), #[]⟩
noncomputable def q685 (_ : Params) : Obj := ⟨.none, none, (.fields #[]), #[]⟩
noncomputable def q686 (_ : Params) : Obj := ⟨.type "tuple", none, (.seq #[.str (S "filter_unit") 1406, .str (S "scanline") 1407, .str (S "previous") 1408, .str (S "result") 1409, .str (S "ai") 1410, .str (S "i") 1411, .str (S "x") 1412, .str (S "a") 1413, .str (S "c") 1414, .str (S "b") 1415, .str (S "p") 1416, .str (S "pa") 1417, .str (S "pb") 1418, .str (S "pc") 1419, .str (S "pr") 1420] 0), #[]⟩
noncomputable def q687 (_ : Params) : Obj := ⟨.type "tuple", none, (.seq #[] 0), #[]⟩
noncomputable def q688 (_ : Params) : Obj := ⟨.none, none, (.func { name := (S "undo_filter_paeth"), qualname := (S "undo_filter_paeth"), params := argsS (topS 35), body := .stmts (bodyS (topS 35)), scope := scopeS (topS 35), globals := 0, closure := [], defaults := .none, kwdefaults := .none, doc := .none, pyModule := .none, annotations := none, code := .none, closureTuple := .none, builtins := 0 }), #[]⟩
noncomputable def q689 (_ : Params) : Obj := ⟨.type "code", none, (.fields #[.str (S "undo_filter_paeth") 1403, .str (S "undo_filter_paeth") 1404, .str (S "/claim/cut.py") 1405, .int (666) 0, .int (4) 0, .int (0) 0, .int (0) 0, .int (3) 0, .ref 684, .bool true, .int (429) 0, .ref 685, .none, .ref 686, .ref 687, .ref 688, .int (1421) 0, .int (666) 0, .str (S "/claim/cut.py") 1422]), #[]⟩
noncomputable def q690 (_ : Params) : Obj := ⟨.type "function", none, (.func { name := (S "undo_filter_paeth"), qualname := (S "undo_filter_paeth"), params := argsS (topS 35), body := .stmts (bodyS (topS 35)), scope := scopeS (topS 35), globals := 3, closure := [], defaults := .none, kwdefaults := .none, doc := .str (docS (bodyS (topS 35))) 1423, pyModule := .str (S "pypng.png") 1036, annotations := none, code := .ref 689, closureTuple := .none, builtins := 0 }), #[]⟩
noncomputable def q691 (_ : Params) : Obj := ⟨.type "tuple", none, (.seq #[] 0), #[]⟩
noncomputable def q692 (_ : Params) : Obj := ⟨.none, none, (.fields #[]), #[]⟩
noncomputable def q693 (_ : Params) : Obj := ⟨.type "tuple", none, (.seq #[.str (S "octets") 1430, .str (S "rest") 1431, .str (S "octet") 1432, .str (S "k") 1433, .str (S "bit") 1434] 0), #[]⟩
noncomputable def q694 (_ : Params) : Obj := ⟨.type "tuple", none, (.seq #[] 0), #[]⟩
noncomputable def q695 (_ : Params) : Obj := ⟨.none, none, (.func { name := (S "_law_sum"), qualname := (S "_law_sum"), params := argsS (topS 37), body := .stmts (bodyS (topS 37)), scope := scopeS (topS 37), globals := 0, closure := [], defaults := .none, kwdefaults := .none, doc := .none, pyModule := .none, annotations := none, code := .none, closureTuple := .none, builtins := 0 }), #[]⟩
noncomputable def q696 (_ : Params) : Obj := ⟨.type "code", none, (.fields #[.str (S "_law_sum") 1427, .str (S "_law_sum") 1428, .str (S "/claim/cut.py") 1429, .int (690) 0, .int (1) 0, .int (0) 0, .int (0) 0, .int (3) 0, .ref 691, .bool true, .int (429) 0, .ref 692, .none, .ref 693, .ref 694, .ref 695, .int (1435) 0, .int (690) 0, .str (S "/claim/cut.py") 1436]), #[]⟩
noncomputable def q697 (_ : Params) : Obj := ⟨.type "function", none, (.func { name := (S "_law_sum"), qualname := (S "_law_sum"), params := argsS (topS 37), body := .stmts (bodyS (topS 37)), scope := scopeS (topS 37), globals := 3, closure := [], defaults := .none, kwdefaults := .none, doc := .none, pyModule := .str (S "law_ar0037_04") 1425, annotations := none, code := .ref 696, closureTuple := .none, builtins := 0 }), #[]⟩
noncomputable def q698 (_ : Params) : Obj := ⟨.type "tuple", none, (.seq #[] 0), #[]⟩
noncomputable def q699 (_ : Params) : Obj := ⟨.none, none, (.fields #[]), #[]⟩
noncomputable def q700 (_ : Params) : Obj := ⟨.none, none, (.func { name := (S "law"), qualname := (S "law"), params := argsS (topS 38), body := .stmts (bodyS (topS 38)), scope := scopeS (topS 38), globals := 0, closure := [], defaults := .none, kwdefaults := .none, doc := .none, pyModule := .none, annotations := none, code := .none, closureTuple := .none, builtins := 0 }), #[]⟩
noncomputable def q701 (_ : Params) : Obj := ⟨.type "code", none, (.fields #[.str (S "law") 1438, .str (S "law") 1439, .str (S "/claim/cut.py") 1440, .int (699) 0, .int (1) 0, .int (0) 0, .int (0) 0, .int (3) 0, .ref 698, .bool true, .int (429) 0, .ref 699, .none, .none, .none, .ref 700, .int (1441) 0, .int (699) 0, .str (S "/claim/cut.py") 1442]), #[]⟩
noncomputable def q702 (_ : Params) : Obj := ⟨.type "function", none, (.func { name := (S "law"), qualname := (S "law"), params := argsS (topS 38), body := .stmts (bodyS (topS 38)), scope := scopeS (topS 38), globals := 3, closure := [], defaults := .none, kwdefaults := .none, doc := .none, pyModule := .str (S "law_ar0037_04") 1425, annotations := none, code := .ref 701, closureTuple := .none, builtins := 0 }), #[]⟩
noncomputable def T0 (P : Params) : BT := (.node (q0 P) (.node (q1 P) (.node (q3 P) (.node (q7 P) (.node (q15 P) (.node (q31 P) .nil .nil) (.node (q47 P) .nil .nil)) (.node (q23 P) (.node (q39 P) .nil .nil) .nil)) (.node (q11 P) (.node (q19 P) (.node (q35 P) .nil .nil) .nil) (.node (q27 P) (.node (q43 P) .nil .nil) .nil))) (.node (q5 P) (.node (q9 P) (.node (q17 P) (.node (q33 P) .nil .nil) (.node (q49 P) .nil .nil)) (.node (q25 P) (.node (q41 P) .nil .nil) .nil)) (.node (q13 P) (.node (q21 P) (.node (q37 P) .nil .nil) .nil) (.node (q29 P) (.node (q45 P) .nil .nil) .nil)))) (.node (q2 P) (.node (q4 P) (.node (q8 P) (.node (q16 P) (.node (q32 P) .nil .nil) (.node (q48 P) .nil .nil)) (.node (q24 P) (.node (q40 P) .nil .nil) .nil)) (.node (q12 P) (.node (q20 P) (.node (q36 P) .nil .nil) .nil) (.node (q28 P) (.node (q44 P) .nil .nil) .nil))) (.node (q6 P) (.node (q10 P) (.node (q18 P) (.node (q34 P) .nil .nil) .nil) (.node (q26 P) (.node (q42 P) .nil .nil) .nil)) (.node (q14 P) (.node (q22 P) (.node (q38 P) .nil .nil) .nil) (.node (q30 P) (.node (q46 P) .nil .nil) .nil)))))
noncomputable def Ta (P : Params) : BT := (.node (q0 P) (.node (q1 P) (.node (q3 P) (.node (q7 P) (.node (q15 P) (.node (q31 P) .nil .nil) (.node (q47 P) .nil .nil)) (.node (q23 P) (.node (q39 P) .nil .nil) .nil)) (.node (q11 P) (.node (q19 P) (.node (q35 P) .nil .nil) (.node (q51 P) .nil .nil)) (.node (q27 P) (.node (q43 P) .nil .nil) .nil))) (.node (q5 P) (.node (q9 P) (.node (q17 P) (.node (q33 P) .nil .nil) (.node (q49 P) .nil .nil)) (.node (q25 P) (.node (q41 P) .nil .nil) .nil)) (.node (q13 P) (.node (q21 P) (.node (q37 P) .nil .nil) (.node (q53 P) .nil .nil)) (.node (q29 P) (.node (q45 P) .nil .nil) .nil)))) (.node (q2 P) (.node (q4 P) (.node (q8 P) (.node (q16 P) (.node (q32 P) .nil .nil) (.node (q48 P) .nil .nil)) (.node (q24 P) (.node (q40 P) .nil .nil) .nil)) (.node (q12 P) (.node (q20 P) (.node (q36 P) .nil .nil) (.node (q52 P) .nil .nil)) (.node (q28 P) (.node (q44 P) .nil .nil) .nil))) (.node (q6 P) (.node (q10 P) (.node (q18 P) (.node (q34 P) .nil .nil) (.node (q50 P) .nil .nil)) (.node (q26 P) (.node (q42 P) .nil .nil) .nil)) (.node (q14 P) (.node (q22 P) (.node (q38 P) .nil .nil) .nil) (.node (q30 P) (.node (q46 P) .nil .nil) .nil)))))
noncomputable def Tm (P : Params) : BT := (.node (q0 P) (.node (q1 P) (.node (q3_1 P) (.node (q7 P) (.node (q15 P) (.node (q31 P) (.node (q63 P) (.node (q127 P) (.node (q255 P) .nil .nil) .nil) (.node (q191 P) .nil .nil)) (.node (q95 P) (.node (q159 P) (.node (q287 P) .nil .nil) .nil) (.node (q223 P) .nil .nil))) (.node (q47 P) (.node (q79 P) (.node (q143 P) (.node (q271 P) .nil .nil) .nil) (.node (q207 P) .nil .nil)) (.node (q111 P) (.node (q175 P) .nil .nil) (.node (q239 P) .nil .nil)))) (.node (q23 P) (.node (q39 P) (.node (q71 P) (.node (q135 P) (.node (q263 P) .nil .nil) .nil) (.node (q199 P) .nil .nil)) (.node (q103 P) (.node (q167 P) (.node (q295 P) .nil .nil) .nil) (.node (q231 P) .nil .nil))) (.node (q55 P) (.node (q87 P) (.node (q151 P) (.node (q279 P) .nil .nil) .nil) (.node (q215 P) .nil .nil)) (.node (q119 P) (.node (q183 P) .nil .nil) (.node (q247 P) .nil .nil))))) (.node (q11 P) (.node (q19 P) (.node (q35 P) (.node (q67 P) (.node (q131 P) (.node (q259 P) .nil .nil) .nil) (.node (q195 P) .nil .nil)) (.node (q99 P) (.node (q163 P) (.node (q291 P) .nil .nil) .nil) (.node (q227 P) .nil .nil))) (.node (q51_1 P) (.node (q83 P) (.node (q147 P) (.node (q275 P) .nil .nil) .nil) (.node (q211 P) .nil .nil)) (.node (q115 P) (.node (q179 P) .nil .nil) (.node (q243 P) .nil .nil)))) (.node (q27 P) (.node (q43 P) (.node (q75 P) (.node (q139 P) (.node (q267 P) .nil .nil) .nil) (.node (q203 P) .nil .nil)) (.node (q107 P) (.node (q171 P) (.node (q299 P) .nil .nil) .nil) (.node (q235 P) .nil .nil))) (.node (q59 P) (.node (q91 P) (.node (q155 P) (.node (q283 P) .nil .nil) .nil) (.node (q219 P) .nil .nil)) (.node (q123 P) (.node (q187 P) .nil .nil) (.node (q251 P) .nil .nil)))))) (.node (q5 P) (.node (q9 P) (.node (q17 P) (.node (q33 P) (.node (q65 P) (.node (q129 P) (.node (q257 P) .nil .nil) .nil) (.node (q193 P) .nil .nil)) (.node (q97 P) (.node (q161 P) (.node (q289 P) .nil .nil) .nil) (.node (q225 P) .nil .nil))) (.node (q49 P) (.node (q81 P) (.node (q145 P) (.node (q273 P) .nil .nil) .nil) (.node (q209 P) .nil .nil)) (.node (q113 P) (.node (q177 P) .nil .nil) (.node (q241 P) .nil .nil)))) (.node (q25 P) (.node (q41 P) (.node (q73 P) (.node (q137 P) (.node (q265 P) .nil .nil) .nil) (.node (q201 P) .nil .nil)) (.node (q105 P) (.node (q169 P) (.node (q297 P) .nil .nil) .nil) (.node (q233 P) .nil .nil))) (.node (q57 P) (.node (q89 P) (.node (q153 P) (.node (q281 P) .nil .nil) .nil) (.node (q217 P) .nil .nil)) (.node (q121 P) (.node (q185 P) .nil .nil) (.node (q249 P) .nil .nil))))) (.node (q13 P) (.node (q21 P) (.node (q37 P) (.node (q69 P) (.node (q133 P) (.node (q261 P) .nil .nil) .nil) (.node (q197 P) .nil .nil)) (.node (q101 P) (.node (q165 P) (.node (q293 P) .nil .nil) .nil) (.node (q229 P) .nil .nil))) (.node (q53 P) (.node (q85 P) (.node (q149 P) (.node (q277 P) .nil .nil) .nil) (.node (q213 P) .nil .nil)) (.node (q117 P) (.node (q181 P) .nil .nil) (.node (q245 P) .nil .nil)))) (.node (q29 P) (.node (q45 P) (.node (q77 P) (.node (q141 P) (.node (q269 P) .nil .nil) .nil) (.node (q205 P) .nil .nil)) (.node (q109 P) (.node (q173 P) (.node (q301 P) .nil .nil) .nil) (.node (q237 P) .nil .nil))) (.node (q61 P) (.node (q93 P) (.node (q157 P) (.node (q285 P) .nil .nil) .nil) (.node (q221 P) .nil .nil)) (.node (q125 P) (.node (q189 P) .nil .nil) (.node (q253 P) .nil .nil))))))) (.node (q2 P) (.node (q4 P) (.node (q8 P) (.node (q16 P) (.node (q32 P) (.node (q64 P) (.node (q128 P) (.node (q256 P) .nil .nil) .nil) (.node (q192 P) .nil .nil)) (.node (q96 P) (.node (q160 P) (.node (q288 P) .nil .nil) .nil) (.node (q224 P) .nil .nil))) (.node (q48 P) (.node (q80 P) (.node (q144 P) (.node (q272 P) .nil .nil) .nil) (.node (q208 P) .nil .nil)) (.node (q112 P) (.node (q176 P) .nil .nil) (.node (q240 P) .nil .nil)))) (.node (q24 P) (.node (q40 P) (.node (q72 P) (.node (q136 P) (.node (q264 P) .nil .nil) .nil) (.node (q200 P) .nil .nil)) (.node (q104 P) (.node (q168 P) (.node (q296 P) .nil .nil) .nil) (.node (q232 P) .nil .nil))) (.node (q56 P) (.node (q88 P) (.node (q152 P) (.node (q280 P) .nil .nil) .nil) (.node (q216 P) .nil .nil)) (.node (q120 P) (.node (q184 P) .nil .nil) (.node (q248 P) .nil .nil))))) (.node (q12 P) (.node (q20 P) (.node (q36 P) (.node (q68 P) (.node (q132 P) (.node (q260 P) .nil .nil) .nil) (.node (q196 P) .nil .nil)) (.node (q100 P) (.node (q164 P) (.node (q292 P) .nil .nil) .nil) (.node (q228 P) .nil .nil))) (.node (q52 P) (.node (q84 P) (.node (q148 P) (.node (q276 P) .nil .nil) .nil) (.node (q212 P) .nil .nil)) (.node (q116 P) (.node (q180 P) .nil .nil) (.node (q244 P) .nil .nil)))) (.node (q28 P) (.node (q44 P) (.node (q76 P) (.node (q140 P) (.node (q268 P) .nil .nil) .nil) (.node (q204 P) .nil .nil)) (.node (q108 P) (.node (q172 P) (.node (q300 P) .nil .nil) .nil) (.node (q236 P) .nil .nil))) (.node (q60 P) (.node (q92 P) (.node (q156 P) (.node (q284 P) .nil .nil) .nil) (.node (q220 P) .nil .nil)) (.node (q124 P) (.node (q188 P) .nil .nil) (.node (q252 P) .nil .nil)))))) (.node (q6 P) (.node (q10 P) (.node (q18 P) (.node (q34 P) (.node (q66 P) (.node (q130 P) (.node (q258 P) .nil .nil) .nil) (.node (q194 P) .nil .nil)) (.node (q98 P) (.node (q162 P) (.node (q290 P) .nil .nil) .nil) (.node (q226 P) .nil .nil))) (.node (q50 P) (.node (q82 P) (.node (q146 P) (.node (q274 P) .nil .nil) .nil) (.node (q210 P) .nil .nil)) (.node (q114 P) (.node (q178 P) .nil .nil) (.node (q242 P) .nil .nil)))) (.node (q26 P) (.node (q42 P) (.node (q74 P) (.node (q138 P) (.node (q266 P) .nil .nil) .nil) (.node (q202 P) .nil .nil)) (.node (q106 P) (.node (q170 P) (.node (q298 P) .nil .nil) .nil) (.node (q234 P) .nil .nil))) (.node (q58 P) (.node (q90 P) (.node (q154 P) (.node (q282 P) .nil .nil) .nil) (.node (q218 P) .nil .nil)) (.node (q122 P) (.node (q186 P) .nil .nil) (.node (q250 P) .nil .nil))))) (.node (q14 P) (.node (q22 P) (.node (q38 P) (.node (q70 P) (.node (q134 P) (.node (q262 P) .nil .nil) .nil) (.node (q198 P) .nil .nil)) (.node (q102 P) (.node (q166 P) (.node (q294 P) .nil .nil) .nil) (.node (q230 P) .nil .nil))) (.node (q54 P) (.node (q86 P) (.node (q150 P) (.node (q278 P) .nil .nil) .nil) (.node (q214 P) .nil .nil)) (.node (q118 P) (.node (q182 P) .nil .nil) (.node (q246 P) .nil .nil)))) (.node (q30 P) (.node (q46 P) (.node (q78 P) (.node (q142 P) (.node (q270 P) .nil .nil) .nil) (.node (q206 P) .nil .nil)) (.node (q110 P) (.node (q174 P) .nil .nil) (.node (q238 P) .nil .nil))) (.node (q62 P) (.node (q94 P) (.node (q158 P) (.node (q286 P) .nil .nil) .nil) (.node (q222 P) .nil .nil)) (.node (q126 P) (.node (q190 P) .nil .nil) (.node (q254 P) .nil .nil))))))))
noncomputable def Te (P : Params) : BT := (.node (q0 P) (.node (q1 P) (.node (q3_2 P) (.node (q7 P) (.node (q15 P) (.node (q31 P) (.node (q63 P) (.node (q127 P) (.node (q255 P) (.node (q511 P) .nil .nil) .nil) (.node (q383 P) (.node (q639 P) .nil .nil) .nil)) (.node (q191 P) (.node (q319 P) (.node (q575 P) .nil .nil) .nil) (.node (q447 P) .nil .nil))) (.node (q95 P) (.node (q159 P) (.node (q287 P) (.node (q543 P) .nil .nil) .nil) (.node (q415 P) (.node (q671 P) .nil .nil) .nil)) (.node (q223 P) (.node (q351 P) (.node (q607 P) .nil .nil) .nil) (.node (q479 P) .nil .nil)))) (.node (q47 P) (.node (q79 P) (.node (q143 P) (.node (q271 P) (.node (q527 P) .nil .nil) .nil) (.node (q399 P) (.node (q655 P) .nil .nil) .nil)) (.node (q207 P) (.node (q335 P) (.node (q591 P) .nil .nil) .nil) (.node (q463 P) .nil .nil))) (.node (q111 P) (.node (q175 P) (.node (q303 P) (.node (q559 P) .nil .nil) .nil) (.node (q431 P) (.node (q687 P) .nil .nil) .nil)) (.node (q239 P) (.node (q367 P) (.node (q623 P) .nil .nil) .nil) (.node (q495 P) .nil .nil))))) (.node (q23 P) (.node (q39 P) (.node (q71 P) (.node (q135 P) (.node (q263 P) (.node (q519 P) .nil .nil) .nil) (.node (q391 P) (.node (q647 P) .nil .nil) .nil)) (.node (q199 P) (.node (q327 P) (.node (q583 P) .nil .nil) .nil) (.node (q455 P) .nil .nil))) (.node (q103 P) (.node (q167 P) (.node (q295 P) (.node (q551 P) .nil .nil) .nil) (.node (q423 P) (.node (q679 P) .nil .nil) .nil)) (.node (q231 P) (.node (q359 P) (.node (q615 P) .nil .nil) .nil) (.node (q487 P) .nil .nil)))) (.node (q55 P) (.node (q87 P) (.node (q151 P) (.node (q279 P) (.node (q535 P) .nil .nil) .nil) (.node (q407 P) (.node (q663 P) .nil .nil) .nil)) (.node (q215 P) (.node (q343 P) (.node (q599 P) .nil .nil) .nil) (.node (q471 P) .nil .nil))) (.node (q119 P) (.node (q183 P) (.node (q311 P) (.node (q567 P) .nil .nil) .nil) (.node (q439 P) (.node (q695 P) .nil .nil) .nil)) (.node (q247 P) (.node (q375 P) (.node (q631 P) .nil .nil) .nil) (.node (q503 P) .nil .nil)))))) (.node (q11 P) (.node (q19 P) (.node (q35 P) (.node (q67 P) (.node (q131 P) (.node (q259 P) (.node (q515 P) .nil .nil) .nil) (.node (q387 P) (.node (q643 P) .nil .nil) .nil)) (.node (q195 P) (.node (q323 P) (.node (q579 P) .nil .nil) .nil) (.node (q451 P) .nil .nil))) (.node (q99 P) (.node (q163 P) (.node (q291 P) (.node (q547 P) .nil .nil) .nil) (.node (q419 P) (.node (q675 P) .nil .nil) .nil)) (.node (q227 P) (.node (q355 P) (.node (q611 P) .nil .nil) .nil) (.node (q483 P) .nil .nil)))) (.node (q51_2 P) (.node (q83 P) (.node (q147 P) (.node (q275 P) (.node (q531 P) .nil .nil) .nil) (.node (q403 P) (.node (q659 P) .nil .nil) .nil)) (.node (q211 P) (.node (q339 P) (.node (q595 P) .nil .nil) .nil) (.node (q467 P) .nil .nil))) (.node (q115 P) (.node (q179 P) (.node (q307 P) (.node (q563 P) .nil .nil) .nil) (.node (q435 P) (.node (q691 P) .nil .nil) .nil)) (.node (q243 P) (.node (q371 P) (.node (q627 P) .nil .nil) .nil) (.node (q499 P) .nil .nil))))) (.node (q27 P) (.node (q43 P) (.node (q75 P) (.node (q139 P) (.node (q267 P) (.node (q523 P) .nil .nil) .nil) (.node (q395 P) (.node (q651 P) .nil .nil) .nil)) (.node (q203 P) (.node (q331 P) (.node (q587 P) .nil .nil) .nil) (.node (q459 P) .nil .nil))) (.node (q107 P) (.node (q171 P) (.node (q299 P) (.node (q555 P) .nil .nil) .nil) (.node (q427 P) (.node (q683 P) .nil .nil) .nil)) (.node (q235 P) (.node (q363 P) (.node (q619 P) .nil .nil) .nil) (.node (q491 P) .nil .nil)))) (.node (q59 P) (.node (q91 P) (.node (q155 P) (.node (q283 P) (.node (q539 P) .nil .nil) .nil) (.node (q411 P) (.node (q667 P) .nil .nil) .nil)) (.node (q219 P) (.node (q347 P) (.node (q603 P) .nil .nil) .nil) (.node (q475 P) .nil .nil))) (.node (q123 P) (.node (q187 P) (.node (q315 P) (.node (q571 P) .nil .nil) .nil) (.node (q443 P) (.node (q699 P) .nil .nil) .nil)) (.node (q251 P) (.node (q379 P) (.node (q635 P) .nil .nil) .nil) (.node (q507 P) .nil .nil))))))) (.node (q5 P) (.node (q9 P) (.node (q17 P) (.node (q33 P) (.node (q65 P) (.node (q129 P) (.node (q257 P) (.node (q513 P) .nil .nil) .nil) (.node (q385 P) (.node (q641 P) .nil .nil) .nil)) (.node (q193 P) (.node (q321 P) (.node (q577 P) .nil .nil) .nil) (.node (q449 P) .nil .nil))) (.node (q97 P) (.node (q161 P) (.node (q289 P) (.node (q545 P) .nil .nil) .nil) (.node (q417 P) (.node (q673 P) .nil .nil) .nil)) (.node (q225 P) (.node (q353 P) (.node (q609 P) .nil .nil) .nil) (.node (q481 P) .nil .nil)))) (.node (q49 P) (.node (q81 P) (.node (q145 P) (.node (q273 P) (.node (q529 P) .nil .nil) .nil) (.node (q401 P) (.node (q657 P) .nil .nil) .nil)) (.node (q209 P) (.node (q337 P) (.node (q593 P) .nil .nil) .nil) (.node (q465 P) .nil .nil))) (.node (q113 P) (.node (q177 P) (.node (q305 P) (.node (q561 P) .nil .nil) .nil) (.node (q433 P) (.node (q689 P) .nil .nil) .nil)) (.node (q241 P) (.node (q369 P) (.node (q625 P) .nil .nil) .nil) (.node (q497 P) .nil .nil))))) (.node (q25 P) (.node (q41 P) (.node (q73 P) (.node (q137 P) (.node (q265 P) (.node (q521 P) .nil .nil) .nil) (.node (q393 P) (.node (q649 P) .nil .nil) .nil)) (.node (q201 P) (.node (q329 P) (.node (q585 P) .nil .nil) .nil) (.node (q457 P) .nil .nil))) (.node (q105 P) (.node (q169 P) (.node (q297 P) (.node (q553 P) .nil .nil) .nil) (.node (q425 P) (.node (q681 P) .nil .nil) .nil)) (.node (q233 P) (.node (q361 P) (.node (q617 P) .nil .nil) .nil) (.node (q489 P) .nil .nil)))) (.node (q57 P) (.node (q89 P) (.node (q153 P) (.node (q281 P) (.node (q537 P) .nil .nil) .nil) (.node (q409 P) (.node (q665 P) .nil .nil) .nil)) (.node (q217 P) (.node (q345 P) (.node (q601 P) .nil .nil) .nil) (.node (q473 P) .nil .nil))) (.node (q121 P) (.node (q185 P) (.node (q313 P) (.node (q569 P) .nil .nil) .nil) (.node (q441 P) (.node (q697 P) .nil .nil) .nil)) (.node (q249 P) (.node (q377 P) (.node (q633 P) .nil .nil) .nil) (.node (q505 P) .nil .nil)))))) (.node (q13 P) (.node (q21 P) (.node (q37 P) (.node (q69 P) (.node (q133 P) (.node (q261 P) (.node (q517 P) .nil .nil) .nil) (.node (q389 P) (.node (q645 P) .nil .nil) .nil)) (.node (q197 P) (.node (q325 P) (.node (q581 P) .nil .nil) .nil) (.node (q453 P) .nil .nil))) (.node (q101 P) (.node (q165 P) (.node (q293 P) (.node (q549 P) .nil .nil) .nil) (.node (q421 P) (.node (q677 P) .nil .nil) .nil)) (.node (q229 P) (.node (q357 P) (.node (q613 P) .nil .nil) .nil) (.node (q485 P) .nil .nil)))) (.node (q53 P) (.node (q85 P) (.node (q149 P) (.node (q277 P) (.node (q533 P) .nil .nil) .nil) (.node (q405 P) (.node (q661 P) .nil .nil) .nil)) (.node (q213 P) (.node (q341 P) (.node (q597 P) .nil .nil) .nil) (.node (q469 P) .nil .nil))) (.node (q117 P) (.node (q181 P) (.node (q309 P) (.node (q565 P) .nil .nil) .nil) (.node (q437 P) (.node (q693 P) .nil .nil) .nil)) (.node (q245 P) (.node (q373 P) (.node (q629 P) .nil .nil) .nil) (.node (q501 P) .nil .nil))))) (.node (q29 P) (.node (q45 P) (.node (q77 P) (.node (q141 P) (.node (q269 P) (.node (q525 P) .nil .nil) .nil) (.node (q397 P) (.node (q653 P) .nil .nil) .nil)) (.node (q205 P) (.node (q333 P) (.node (q589 P) .nil .nil) .nil) (.node (q461 P) .nil .nil))) (.node (q109 P) (.node (q173 P) (.node (q301 P) (.node (q557 P) .nil .nil) .nil) (.node (q429 P) (.node (q685 P) .nil .nil) .nil)) (.node (q237 P) (.node (q365 P) (.node (q621 P) .nil .nil) .nil) (.node (q493 P) .nil .nil)))) (.node (q61 P) (.node (q93 P) (.node (q157 P) (.node (q285 P) (.node (q541 P) .nil .nil) .nil) (.node (q413 P) (.node (q669 P) .nil .nil) .nil)) (.node (q221 P) (.node (q349 P) (.node (q605 P) .nil .nil) .nil) (.node (q477 P) .nil .nil))) (.node (q125 P) (.node (q189 P) (.node (q317 P) (.node (q573 P) .nil .nil) .nil) (.node (q445 P) (.node (q701 P) .nil .nil) .nil)) (.node (q253 P) (.node (q381 P) (.node (q637 P) .nil .nil) .nil) (.node (q509 P) .nil .nil)))))))) (.node (q2_1 P) (.node (q4 P) (.node (q8 P) (.node (q16 P) (.node (q32 P) (.node (q64 P) (.node (q128 P) (.node (q256 P) (.node (q512 P) .nil .nil) .nil) (.node (q384 P) (.node (q640 P) .nil .nil) .nil)) (.node (q192 P) (.node (q320 P) (.node (q576 P) .nil .nil) .nil) (.node (q448 P) .nil .nil))) (.node (q96 P) (.node (q160 P) (.node (q288 P) (.node (q544 P) .nil .nil) .nil) (.node (q416 P) (.node (q672 P) .nil .nil) .nil)) (.node (q224 P) (.node (q352 P) (.node (q608 P) .nil .nil) .nil) (.node (q480 P) .nil .nil)))) (.node (q48 P) (.node (q80 P) (.node (q144 P) (.node (q272 P) (.node (q528 P) .nil .nil) .nil) (.node (q400 P) (.node (q656 P) .nil .nil) .nil)) (.node (q208 P) (.node (q336 P) (.node (q592 P) .nil .nil) .nil) (.node (q464 P) .nil .nil))) (.node (q112 P) (.node (q176 P) (.node (q304 P) (.node (q560 P) .nil .nil) .nil) (.node (q432 P) (.node (q688 P) .nil .nil) .nil)) (.node (q240 P) (.node (q368 P) (.node (q624 P) .nil .nil) .nil) (.node (q496 P) .nil .nil))))) (.node (q24 P) (.node (q40 P) (.node (q72 P) (.node (q136 P) (.node (q264 P) (.node (q520 P) .nil .nil) .nil) (.node (q392 P) (.node (q648 P) .nil .nil) .nil)) (.node (q200 P) (.node (q328 P) (.node (q584 P) .nil .nil) .nil) (.node (q456 P) .nil .nil))) (.node (q104 P) (.node (q168 P) (.node (q296 P) (.node (q552 P) .nil .nil) .nil) (.node (q424 P) (.node (q680 P) .nil .nil) .nil)) (.node (q232 P) (.node (q360 P) (.node (q616 P) .nil .nil) .nil) (.node (q488 P) .nil .nil)))) (.node (q56 P) (.node (q88 P) (.node (q152 P) (.node (q280 P) (.node (q536 P) .nil .nil) .nil) (.node (q408 P) (.node (q664 P) .nil .nil) .nil)) (.node (q216 P) (.node (q344 P) (.node (q600 P) .nil .nil) .nil) (.node (q472 P) .nil .nil))) (.node (q120 P) (.node (q184 P) (.node (q312 P) (.node (q568 P) .nil .nil) .nil) (.node (q440 P) (.node (q696 P) .nil .nil) .nil)) (.node (q248 P) (.node (q376 P) (.node (q632 P) .nil .nil) .nil) (.node (q504 P) .nil .nil)))))) (.node (q12 P) (.node (q20 P) (.node (q36 P) (.node (q68 P) (.node (q132 P) (.node (q260 P) (.node (q516 P) .nil .nil) .nil) (.node (q388 P) (.node (q644 P) .nil .nil) .nil)) (.node (q196 P) (.node (q324 P) (.node (q580 P) .nil .nil) .nil) (.node (q452 P) .nil .nil))) (.node (q100 P) (.node (q164 P) (.node (q292 P) (.node (q548 P) .nil .nil) .nil) (.node (q420 P) (.node (q676 P) .nil .nil) .nil)) (.node (q228 P) (.node (q356 P) (.node (q612 P) .nil .nil) .nil) (.node (q484 P) .nil .nil)))) (.node (q52 P) (.node (q84 P) (.node (q148 P) (.node (q276 P) (.node (q532 P) .nil .nil) .nil) (.node (q404 P) (.node (q660 P) .nil .nil) .nil)) (.node (q212 P) (.node (q340 P) (.node (q596 P) .nil .nil) .nil) (.node (q468 P) .nil .nil))) (.node (q116 P) (.node (q180 P) (.node (q308 P) (.node (q564 P) .nil .nil) .nil) (.node (q436 P) (.node (q692 P) .nil .nil) .nil)) (.node (q244 P) (.node (q372 P) (.node (q628 P) .nil .nil) .nil) (.node (q500 P) .nil .nil))))) (.node (q28 P) (.node (q44 P) (.node (q76 P) (.node (q140 P) (.node (q268 P) (.node (q524 P) .nil .nil) .nil) (.node (q396 P) (.node (q652 P) .nil .nil) .nil)) (.node (q204 P) (.node (q332 P) (.node (q588 P) .nil .nil) .nil) (.node (q460 P) .nil .nil))) (.node (q108 P) (.node (q172 P) (.node (q300 P) (.node (q556 P) .nil .nil) .nil) (.node (q428 P) (.node (q684 P) .nil .nil) .nil)) (.node (q236 P) (.node (q364 P) (.node (q620 P) .nil .nil) .nil) (.node (q492 P) .nil .nil)))) (.node (q60 P) (.node (q92 P) (.node (q156 P) (.node (q284 P) (.node (q540 P) .nil .nil) .nil) (.node (q412 P) (.node (q668 P) .nil .nil) .nil)) (.node (q220 P) (.node (q348 P) (.node (q604 P) .nil .nil) .nil) (.node (q476 P) .nil .nil))) (.node (q124 P) (.node (q188 P) (.node (q316 P) (.node (q572 P) .nil .nil) .nil) (.node (q444 P) (.node (q700 P) .nil .nil) .nil)) (.node (q252 P) (.node (q380 P) (.node (q636 P) .nil .nil) .nil) (.node (q508 P) .nil .nil))))))) (.node (q6 P) (.node (q10 P) (.node (q18 P) (.node (q34 P) (.node (q66 P) (.node (q130 P) (.node (q258 P) (.node (q514 P) .nil .nil) .nil) (.node (q386 P) (.node (q642 P) .nil .nil) .nil)) (.node (q194 P) (.node (q322 P) (.node (q578 P) .nil .nil) .nil) (.node (q450 P) .nil .nil))) (.node (q98 P) (.node (q162 P) (.node (q290 P) (.node (q546 P) .nil .nil) .nil) (.node (q418 P) (.node (q674 P) .nil .nil) .nil)) (.node (q226 P) (.node (q354 P) (.node (q610 P) .nil .nil) .nil) (.node (q482 P) .nil .nil)))) (.node (q50 P) (.node (q82 P) (.node (q146 P) (.node (q274 P) (.node (q530 P) .nil .nil) .nil) (.node (q402 P) (.node (q658 P) .nil .nil) .nil)) (.node (q210 P) (.node (q338 P) (.node (q594 P) .nil .nil) .nil) (.node (q466 P) .nil .nil))) (.node (q114 P) (.node (q178 P) (.node (q306 P) (.node (q562 P) .nil .nil) .nil) (.node (q434 P) (.node (q690 P) .nil .nil) .nil)) (.node (q242 P) (.node (q370 P) (.node (q626 P) .nil .nil) .nil) (.node (q498 P) .nil .nil))))) (.node (q26 P) (.node (q42 P) (.node (q74 P) (.node (q138 P) (.node (q266 P) (.node (q522 P) .nil .nil) .nil) (.node (q394 P) (.node (q650 P) .nil .nil) .nil)) (.node (q202 P) (.node (q330 P) (.node (q586 P) .nil .nil) .nil) (.node (q458 P) .nil .nil))) (.node (q106 P) (.node (q170 P) (.node (q298 P) (.node (q554 P) .nil .nil) .nil) (.node (q426 P) (.node (q682 P) .nil .nil) .nil)) (.node (q234 P) (.node (q362 P) (.node (q618 P) .nil .nil) .nil) (.node (q490 P) .nil .nil)))) (.node (q58 P) (.node (q90 P) (.node (q154 P) (.node (q282 P) (.node (q538 P) .nil .nil) .nil) (.node (q410 P) (.node (q666 P) .nil .nil) .nil)) (.node (q218 P) (.node (q346 P) (.node (q602 P) .nil .nil) .nil) (.node (q474 P) .nil .nil))) (.node (q122 P) (.node (q186 P) (.node (q314 P) (.node (q570 P) .nil .nil) .nil) (.node (q442 P) (.node (q698 P) .nil .nil) .nil)) (.node (q250 P) (.node (q378 P) (.node (q634 P) .nil .nil) .nil) (.node (q506 P) .nil .nil)))))) (.node (q14 P) (.node (q22 P) (.node (q38 P) (.node (q70 P) (.node (q134 P) (.node (q262 P) (.node (q518 P) .nil .nil) .nil) (.node (q390 P) (.node (q646 P) .nil .nil) .nil)) (.node (q198 P) (.node (q326 P) (.node (q582 P) .nil .nil) .nil) (.node (q454 P) .nil .nil))) (.node (q102 P) (.node (q166 P) (.node (q294 P) (.node (q550 P) .nil .nil) .nil) (.node (q422 P) (.node (q678 P) .nil .nil) .nil)) (.node (q230 P) (.node (q358 P) (.node (q614 P) .nil .nil) .nil) (.node (q486 P) .nil .nil)))) (.node (q54 P) (.node (q86 P) (.node (q150 P) (.node (q278 P) (.node (q534 P) .nil .nil) .nil) (.node (q406 P) (.node (q662 P) .nil .nil) .nil)) (.node (q214 P) (.node (q342 P) (.node (q598 P) .nil .nil) .nil) (.node (q470 P) .nil .nil))) (.node (q118 P) (.node (q182 P) (.node (q310 P) (.node (q566 P) .nil .nil) .nil) (.node (q438 P) (.node (q694 P) .nil .nil) .nil)) (.node (q246 P) (.node (q374 P) (.node (q630 P) .nil .nil) .nil) (.node (q502 P) .nil .nil))))) (.node (q30 P) (.node (q46 P) (.node (q78 P) (.node (q142 P) (.node (q270 P) (.node (q526 P) .nil .nil) .nil) (.node (q398 P) (.node (q654 P) .nil .nil) .nil)) (.node (q206 P) (.node (q334 P) (.node (q590 P) .nil .nil) .nil) (.node (q462 P) .nil .nil))) (.node (q110 P) (.node (q174 P) (.node (q302 P) (.node (q558 P) .nil .nil) .nil) (.node (q430 P) (.node (q686 P) .nil .nil) .nil)) (.node (q238 P) (.node (q366 P) (.node (q622 P) .nil .nil) .nil) (.node (q494 P) .nil .nil)))) (.node (q62 P) (.node (q94 P) (.node (q158 P) (.node (q286 P) (.node (q542 P) .nil .nil) .nil) (.node (q414 P) (.node (q670 P) .nil .nil) .nil)) (.node (q222 P) (.node (q350 P) (.node (q606 P) .nil .nil) .nil) (.node (q478 P) .nil .nil))) (.node (q126 P) (.node (q190 P) (.node (q318 P) (.node (q574 P) .nil .nil) .nil) (.node (q446 P) (.node (q702 P) .nil .nil) .nil)) (.node (q254 P) (.node (q382 P) (.node (q638 P) .nil .nil) .nil) (.node (q510 P) .nil .nil)))))))))
noncomputable def Lf (P : Params) : List Obj := [q0 P, q1 P, q2_1 P, q3_2 P, q4 P, q5 P, q6 P, q7 P, q8 P, q9 P, q10 P, q11 P, q12 P, q13 P, q14 P, q15 P, q16 P, q17 P, q18 P, q19 P, q20 P, q21 P, q22 P, q23 P, q24 P, q25 P, q26 P, q27 P, q28 P, q29 P, q30 P, q31 P, q32 P, q33 P, q34 P, q35 P, q36 P, q37 P, q38 P, q39 P, q40 P, q41 P, q42 P, q43 P, q44 P, q45 P, q46 P, q47 P, q48 P, q49 P, q50 P, q51_2 P, q52 P, q53 P, q54 P, q55 P, q56 P, q57 P, q58 P, q59 P, q60 P, q61 P, q62 P, q63 P, q64 P, q65 P, q66 P, q67 P, q68 P, q69 P, q70 P, q71 P, q72 P, q73 P, q74 P, q75 P, q76 P, q77 P, q78 P, q79 P, q80 P, q81 P, q82 P, q83 P, q84 P, q85 P, q86 P, q87 P, q88 P, q89 P, q90 P, q91 P, q92 P, q93 P, q94 P, q95 P, q96 P, q97 P, q98 P, q99 P, q100 P, q101 P, q102 P, q103 P, q104 P, q105 P, q106 P, q107 P, q108 P, q109 P, q110 P, q111 P, q112 P, q113 P, q114 P, q115 P, q116 P, q117 P, q118 P, q119 P, q120 P, q121 P, q122 P, q123 P, q124 P, q125 P, q126 P, q127 P, q128 P, q129 P, q130 P, q131 P, q132 P, q133 P, q134 P, q135 P, q136 P, q137 P, q138 P, q139 P, q140 P, q141 P, q142 P, q143 P, q144 P, q145 P, q146 P, q147 P, q148 P, q149 P, q150 P, q151 P, q152 P, q153 P, q154 P, q155 P, q156 P, q157 P, q158 P, q159 P, q160 P, q161 P, q162 P, q163 P, q164 P, q165 P, q166 P, q167 P, q168 P, q169 P, q170 P, q171 P, q172 P, q173 P, q174 P, q175 P, q176 P, q177 P, q178 P, q179 P, q180 P, q181 P, q182 P, q183 P, q184 P, q185 P, q186 P, q187 P, q188 P, q189 P, q190 P, q191 P, q192 P, q193 P, q194 P, q195 P, q196 P, q197 P, q198 P, q199 P, q200 P, q201 P, q202 P, q203 P, q204 P, q205 P, q206 P, q207 P, q208 P, q209 P, q210 P, q211 P, q212 P, q213 P, q214 P, q215 P, q216 P, q217 P, q218 P, q219 P, q220 P, q221 P, q222 P, q223 P, q224 P, q225 P, q226 P, q227 P, q228 P, q229 P, q230 P, q231 P, q232 P, q233 P, q234 P, q235 P, q236 P, q237 P, q238 P, q239 P, q240 P, q241 P, q242 P, q243 P, q244 P, q245 P, q246 P, q247 P, q248 P, q249 P, q250 P, q251 P, q252 P, q253 P, q254 P, q255 P, q256 P, q257 P, q258 P, q259 P, q260 P, q261 P, q262 P, q263 P, q264 P, q265 P, q266 P, q267 P, q268 P, q269 P, q270 P, q271 P, q272 P, q273 P, q274 P, q275 P, q276 P, q277 P, q278 P, q279 P, q280 P, q281 P, q282 P, q283 P, q284 P, q285 P, q286 P, q287 P, q288 P, q289 P, q290 P, q291 P, q292 P, q293 P, q294 P, q295 P, q296 P, q297 P, q298 P, q299 P, q300 P, q301 P, q302 P, q303 P, q304 P, q305 P, q306 P, q307 P, q308 P, q309 P, q310 P, q311 P, q312 P, q313 P, q314 P, q315 P, q316 P, q317 P, q318 P, q319 P, q320 P, q321 P, q322 P, q323 P, q324 P, q325 P, q326 P, q327 P, q328 P, q329 P, q330 P, q331 P, q332 P, q333 P, q334 P, q335 P, q336 P, q337 P, q338 P, q339 P, q340 P, q341 P, q342 P, q343 P, q344 P, q345 P, q346 P, q347 P, q348 P, q349 P, q350 P, q351 P, q352 P, q353 P, q354 P, q355 P, q356 P, q357 P, q358 P, q359 P, q360 P, q361 P, q362 P, q363 P, q364 P, q365 P, q366 P, q367 P, q368 P, q369 P, q370 P, q371 P, q372 P, q373 P, q374 P, q375 P, q376 P, q377 P, q378 P, q379 P, q380 P, q381 P, q382 P, q383 P, q384 P, q385 P, q386 P, q387 P, q388 P, q389 P, q390 P, q391 P, q392 P, q393 P, q394 P, q395 P, q396 P, q397 P, q398 P, q399 P, q400 P, q401 P, q402 P, q403 P, q404 P, q405 P, q406 P, q407 P, q408 P, q409 P, q410 P, q411 P, q412 P, q413 P, q414 P, q415 P, q416 P, q417 P, q418 P, q419 P, q420 P, q421 P, q422 P, q423 P, q424 P, q425 P, q426 P, q427 P, q428 P, q429 P, q430 P, q431 P, q432 P, q433 P, q434 P, q435 P, q436 P, q437 P, q438 P, q439 P, q440 P, q441 P, q442 P, q443 P, q444 P, q445 P, q446 P, q447 P, q448 P, q449 P, q450 P, q451 P, q452 P, q453 P, q454 P, q455 P, q456 P, q457 P, q458 P, q459 P, q460 P, q461 P, q462 P, q463 P, q464 P, q465 P, q466 P, q467 P, q468 P, q469 P, q470 P, q471 P, q472 P, q473 P, q474 P, q475 P, q476 P, q477 P, q478 P, q479 P, q480 P, q481 P, q482 P, q483 P, q484 P, q485 P, q486 P, q487 P, q488 P, q489 P, q490 P, q491 P, q492 P, q493 P, q494 P, q495 P, q496 P, q497 P, q498 P, q499 P, q500 P, q501 P, q502 P, q503 P, q504 P, q505 P, q506 P, q507 P, q508 P, q509 P, q510 P, q511 P, q512 P, q513 P, q514 P, q515 P, q516 P, q517 P, q518 P, q519 P, q520 P, q521 P, q522 P, q523 P, q524 P, q525 P, q526 P, q527 P, q528 P, q529 P, q530 P, q531 P, q532 P, q533 P, q534 P, q535 P, q536 P, q537 P, q538 P, q539 P, q540 P, q541 P, q542 P, q543 P, q544 P, q545 P, q546 P, q547 P, q548 P, q549 P, q550 P, q551 P, q552 P, q553 P, q554 P, q555 P, q556 P, q557 P, q558 P, q559 P, q560 P, q561 P, q562 P, q563 P, q564 P, q565 P, q566 P, q567 P, q568 P, q569 P, q570 P, q571 P, q572 P, q573 P, q574 P, q575 P, q576 P, q577 P, q578 P, q579 P, q580 P, q581 P, q582 P, q583 P, q584 P, q585 P, q586 P, q587 P, q588 P, q589 P, q590 P, q591 P, q592 P, q593 P, q594 P, q595 P, q596 P, q597 P, q598 P, q599 P, q600 P, q601 P, q602 P, q603 P, q604 P, q605 P, q606 P, q607 P, q608 P, q609 P, q610 P, q611 P, q612 P, q613 P, q614 P, q615 P, q616 P, q617 P, q618 P, q619 P, q620 P, q621 P, q622 P, q623 P, q624 P, q625 P, q626 P, q627 P, q628 P, q629 P, q630 P, q631 P, q632 P, q633 P, q634 P, q635 P, q636 P, q637 P, q638 P, q639 P, q640 P, q641 P, q642 P, q643 P, q644 P, q645 P, q646 P, q647 P, q648 P, q649 P, q650 P, q651 P, q652 P, q653 P, q654 P, q655 P, q656 P, q657 P, q658 P, q659 P, q660 P, q661 P, q662 P, q663 P, q664 P, q665 P, q666 P, q667 P, q668 P, q669 P, q670 P, q671 P, q672 P, q673 P, q674 P, q675 P, q676 P, q677 P, q678 P, q679 P, q680 P, q681 P, q682 P, q683 P, q684 P, q685 P, q686 P, q687 P, q688 P, q689 P, q690 P, q691 P, q692 P, q693 P, q694 P, q695 P, q696 P, q697 P, q698 P, q699 P, q700 P, q701 P, q702 P]
end Mine.St
end
-- HPm
section
open PySem PySem.W PyProof.Rows PySem.Calls PySem.Spec
set_option Elab.async false
set_option maxRecDepth 100000
set_option maxHeartbeats 0
namespace Mine.St
open Mine
/-- a state between two pieces of the top -/
noncomputable def stT (T : BT) (n toks : Nat) (os : OsState) : SharedT := ⟨T, n, {}, #[], {}, toks, os⟩
noncomputable def bodyL : List Stmt := behindTheImports PySem.Challenge.pw_ar0037_04
noncomputable def envL : Env := { scope := PySem.Challenge.pw_ar0037_04.main.scope, locals := mainNs, globals := mainNs, cells := [], code := .ref 52, frame := some 53 }
noncomputable def codeL : Code := .body bodyL envL
noncomputable def pos0 : Pos := ⟨0, 0, 0, 0⟩
noncomputable def posM : Pos := ⟨90, 0, 132, 63⟩
noncomputable def posE : Pos := ⟨699, 0, 723, 16⟩
theorem run_pre : ∀ (w : World) (os : OsState), Fast.tw15667345088766844465 Fast.tw14364793385576792824 PySem.Challenge.pw_ar0037_04 w 50 (some (.ref 6)) 12 (stT (T0 w.params) 50 429 os).abs (topStub PySem.Challenge.pw_ar0037_04) =
    some ((stT (Ta w.params) 54 435 os).abs, ⟨Fast.tw11892475500146522536 Fast.tw14364793385576792824 codeL, codeL, pos0, [topFrame pos0]⟩) := by
  intro w os
  kernel_rfl
theorem run_block : ∀ (w : World) (os : OsState), Fast.tw10110043849684766642 Fast.tw14364793385576792824 PySem.Challenge.pw_ar0037_04 w 50 (some (.ref 6)) 1 1 (stT (Ta w.params) 54 435 os) (blockOf bodyL envL codeL pos0 [topFrame pos0]) =
    some (.next, stT (Ta w.params) 54 435 os, codeL, pos0) := by
  intro w os
  kernel_rfl
theorem run_fin : ∀ (w : World) (os : OsState), topRun treeTable PySem.Challenge.pw_ar0037_04 w 50 (some (.ref 6)) 2 (stT (Te w.params) 703 1444 os).abs ⟨doneF .next, codeL, posE, [topFrame pos0]⟩ = some (stT (Te w.params) 703 1444 os).abs := by
  intro w os
  kernel_rfl
end Mine.St
end
-- HPn
section
open PySem PySem.W PyProof.Rows PySem.Calls PySem.Spec
set_option Elab.async false
set_option maxRecDepth 100000
set_option maxHeartbeats 0
namespace Mine.St
open Mine
theorem run_m : ∀ (w : World) (os : OsState), Fast.tw10110043849684766642 Fast.tw14364793385576792824 PySem.Challenge.pw_ar0037_04 w 50 (some (.ref 6)) 1 2337 (stT (Ta w.params) 54 435 os)
    ⟨(Fast.tw12563942051412417395 (bodyL.take 13) envL).wrap doneF deadEnd id id, codeL, pos0, [topFrame pos0]⟩ = some (.next, stT (Tm w.params) 302 827 os, codeL, posM) := by
  intro w os
  kernel_rfl
end Mine.St
end
-- HPe
section
open PySem PySem.W PyProof.Rows PySem.Calls PySem.Spec
set_option Elab.async false
set_option maxRecDepth 100000
set_option maxHeartbeats 0
namespace Mine.St
open Mine
theorem run_e : ∀ (w : World) (os : OsState), Fast.tw10110043849684766642 Fast.tw14364793385576792824 PySem.Challenge.pw_ar0037_04 w 50 (some (.ref 6)) 1 2981 (stT (Tm w.params) 302 827 os)
    ⟨(Fast.tw12563942051412417395 (bodyL.drop 13) envL).wrap doneF deadEnd id id, codeL, posM, [topFrame pos0]⟩ = some (.next, stT (Te w.params) 703 1444 os, codeL, posE) := by
  intro w os
  kernel_rfl
end Mine.St
end
-- HPo
section
open PySem PySem.W PyProof.Rows PySem.Calls PySem.Spec
set_option Elab.async false
set_option maxRecDepth 100000
set_option maxHeartbeats 0
namespace Mine.St
open Mine
noncomputable def startT : SharedT := ⟨.nil, 0, {}, #[], {}, 1, { stdin := PySem.Challenge.pw_ar0037_04.given.stdin.toArray }⟩
theorem startT_abs : startT.abs = (start (opening PySem.Challenge.pw_ar0037_04)).1 := rfl
/-- the opening over a tree of objects, the fence, and the heap as a tree -/
noncomputable def opens (f : SharedT → Thread → Option (SharedT × Thread)) (at_ : Thread → Option (List Value)) (fence : Program → Shared → Option Shared) (p : Program) (N : Nat) (s : SharedT) (t : Thread) : Option (BT × Nat × Life × Array GenState × Drawn × Nat) :=
  match impT f at_ N s t with
  | none => none
  | some s1 => match fence p s1.abs with
    | none => none
    | some s0 => match plant s0.heap.objs.toList .nil 0 with
      | none => none
      | some b => some (b, s0.heap.objs.size, s0.heap.life, s0.gens, s0.drawn, s0.toks)
theorem opens_of {p : Program} {w : World} {N : Nat} {s : SharedT} {b : BT} {n : Nat} {li : Life} {g : Array GenState} {d : Drawn} {k : Nat} (hs : s.abs = (start (opening p)).1)
    (h : opens (stepT (denote treeTable) (opening p) w) Thread.atExitBegin fenceModules? p N s (start (opening p)).2 = some (b, n, li, g, d, k)) :
    (fencedOpening treeTable p w N).map (fun s => (s.heap, s.gens, s.drawn, s.toks)) = some (absHeap b n li, g, d, k) := by
  unfold opens at h
  cases h1 : impT (stepT (denote treeTable) (opening p) w) Thread.atExitBegin N s (start (opening p)).2 with
  | none => rw [h1] at h; cases h
  | some s1 =>
    rw [h1] at h
    have e1 := impT_of h1
    rw [hs] at e1
    unfold fencedOpening
    rw [e1]
    show (fenceModules? p s1.abs).map _ = _
    dsimp only at h
    cases h2 : fenceModules? p s1.abs with
    | none => rw [h2] at h; cases h
    | some s0 =>
      rw [h2] at h
      dsimp only at h
      cases h3 : plant s0.heap.objs.toList .nil 0 with
      | none => rw [h3] at h; cases h
      | some b' =>
        rw [h3] at h
        have e := plant_of (life := s0.heap.life) h3
        cases h
        rw [Nat.zero_add, Array.length_toList] at e
        rw [e]
        simp [absHeap, BT.list]
theorem run_o : ∀ w : World, opens (Fast.tw10156331382660048174 (Fast.tw11892475500146522536 Fast.tw14364793385576792824) (opening PySem.Challenge.pw_ar0037_04) w) Fast.tw3805553451399329143 Fast.tw14289696077712309145
    PySem.Challenge.pw_ar0037_04 6000 startT (Fast.tw1435165496053646825 (opening PySem.Challenge.pw_ar0037_04)).2 = some (T0 w.params, 50, {}, #[], {}, 429) := by
  intro w
  kernel_rfl
theorem opened (w : World) : (fencedOpening treeTable PySem.Challenge.pw_ar0037_04 w 6000).map (fun s => (s.heap, s.gens, s.drawn, s.toks)) = some (absHeap (T0 w.params) 50 {}, #[], {}, 429) := by
  have h := run_o w
  rw [← Fast.te10156331382660048174, ← Fast.te11892475500146522536, ← Fast.te14364793385576792824, ← Fast.te3805553451399329143, ← Fast.te14289696077712309145, ← Fast.te1435165496053646825] at h
  exact opens_of startT_abs h
end Mine.St
end
-- HPl
section
open PySem PySem.W PyProof.Rows PySem.Calls PySem.Spec
set_option Elab.async false
set_option maxRecDepth 100000
set_option maxHeartbeats 0
namespace Mine.St
open Mine
noncomputable def qL : Program := view PySem.Challenge.pw_ar0037_04 [0, 1, 38]
noncomputable def looseL : List Str := (PySem.Challenge.pw_ar0037_04.main.scope.names.map (·.1)).filter fun x => !(["add", "pack", "unpack", "law"] : List Str).contains x
/-- the heap behind the top, as a list -/
noncomputable def HL (P : Params) : Heap := ⟨(Lf P).toArray, {}⟩
theorem look_t : ∀ P : Params, (Te P).list 703 = Lf P := by
  intro P
  kernel_rfl
theorem heap_t (P : Params) : absHeap (Te P) 703 {} = HL P := by
  unfold absHeap HL
  rw [look_t]
theorem look_a : ∀ w : World, staticsOk (importedModules PySem.Challenge.pw_ar0037_04.main.body) (absHeap (T0 w.params) 50 {}) (HL w.params) = true := by
  intro w
  kernel_rfl
theorem look_b : ∀ w : World, namesBound PySem.Challenge.pw_ar0037_04 (HL w.params) = true := by
  intro w
  kernel_rfl
theorem look_k : ∀ w : World, laidKept (absHeap (T0 w.params) 50 {}) (HL w.params) = true := by
  intro w
  kernel_rfl
theorem look_c : ∀ (w : World) (os : OsState), Fast.tw4187177175401517315 qL looseL (importedModules PySem.Challenge.pw_ar0037_04.main.body) (fun _ => true) true ⟨HL w.params, #[], {}, 1444, os⟩ = openGood qL looseL := by
  intro w os
  kernel_rfl
theorem look_d : ∀ w : World, Ka.map (HL w.params).get? = (Kc w.params).map fun p => some p.2 := by
  intro w
  kernel_rfl
theorem look_s : ∀ w : World, ((absHeap (T0 w.params) 50 {}).isNs mainGlobals && (#[] : Array GenState).size == 0, (absHeap (T0 w.params) 50 {}).objs.size, (absHeap (T0 w.params) 50 {}).nsMap mainGlobals "__annotations__") = (true, 50, some (.ref 6)) := by
  intro w
  kernel_rfl
end Mine.St
end
-- HPf
section
open PySem PySem.W PyProof.Rows PySem.Calls PySem.Spec
set_option Elab.async false
set_option maxRecDepth 100000
set_option maxHeartbeats 0
namespace Mine.St
open Mine
/-- the whole top, from its pieces -/
theorem runs (w : World) (os : OsState) : topRun treeTable PySem.Challenge.pw_ar0037_04 w 50 (some (.ref 6)) (12 + (1 + (2337 + (2981 + 2)))) (stT (T0 w.params) 50 429 os).abs (topStub PySem.Challenge.pw_ar0037_04) = some (stT (Te w.params) 703 1444 os).abs := by
  have h1 := run_pre w os
  have h2 := run_block w os
  have h3 := run_m w os
  have h4 := run_e w os
  rw [← Fast.te15667345088766844465, ← Fast.te11892475500146522536, ← Fast.te14364793385576792824] at h1
  rw [← Fast.te10110043849684766642, ← Fast.te14364793385576792824] at h2
  rw [← Fast.te10110043849684766642, ← Fast.te14364793385576792824, ← Fast.te12563942051412417395] at h3 h4
  refine go_top h1 (piece_block (segRun_of h2) ?_)
  have h5 := piece_app (segRun_of h3) (piece_app (rest := []) (segRun_of h4) (piece_nil (run_fin w os)))
  rw [List.append_nil, List.take_append_drop] at h5
  exact h5
theorem hookE : ∀ P, Ka = (Kc P).map (·.1) := fun _ => by kernel_rfl
theorem left_law : LeftO PySem.Challenge.pw_ar0037_04 qL looseL (fun _ => true) (kHook Kc Ka hookE).obs (kHook Kc Ka hookE).val 6000 := by
  refine LeftO.of_pieces (H₀ := fun P => absHeap (T0 P) 50 {}) (H₁ := HL) (gs₁ := #[]) (d₁ := {}) (k₁ := 1444) opened look_s (fun w os => ?_) (M := 12 + (1 + (2337 + (2981 + 2)))) (by decide +kernel) fun w => funext fun os => ?_
  · have h := runs w os
    rw [show (stT (Te w.params) 703 1444 os).abs = ⟨HL w.params, #[], {}, 1444, os⟩ from congrArg (fun h : Heap => (⟨h, #[], {}, 1444, os⟩ : Shared)) (heap_t w.params)] at h
    exact h
  · have h1 := look_a w
    have h2 := look_b w
    have h3 := look_k w
    have h4 := look_c w os
    rw [← Fast.te4187177175401517315] at h4
    refine Prod.ext ?_ (Prod.ext h4 (look_d w))
    show (staticsOk _ _ _ && namesBound _ _ && gensDone _ && laidKept _ _) = true
    rw [h1, h2, h3]
    rfl
end Mine.St
end
-- HW
section
open PySem PySem.W PyProof.Rows PySem.Calls PySem.Spec
set_option Elab.async false
set_option maxRecDepth 100000
set_option maxHeartbeats 0
namespace Mine
theorem roads_app (lk : Look) : ∀ a b : List Stmt, noRoadLSs lk (a ++ b) = (noRoadLSs lk a && noRoadLSs lk b)
  | [], b => rfl
  | s :: a, b => by
    show (noRoadLS lk s && noRoadLSs lk (a ++ b)) = ((noRoadLS lk s && noRoadLSs lk a) && noRoadLSs lk b)
    rw [roads_app lk a b, Bool.and_assoc]
noncomputable def rowL : OpenRow := Fast.tw2368527892694137696 PySem.Challenge.rw_ar0037_04
noncomputable def lkL : Look := { strict := false, foot := none, bare := [] }
theorem lk_s : (!R.allR (Fast.tw5923862056798008813 rowL.prog.main.body) (@Fast.tw3471404346716756564 Str (@instBEqOfDecidableEq Str Fast.sDec) Fast.tw17691160309236699985)) = false := by kernel_rfl
theorem lk_b0 : Fast.tw13343964577679436407 rowL.prog rowL.prog.main.body { cps := { toList := [118, 97, 114, 115] } } = false := by kernel_rfl
theorem lk_b1 : Fast.tw13343964577679436407 rowL.prog rowL.prog.main.body { cps := { toList := [100, 105, 114] } } = false := by kernel_rfl
theorem lk_b2 : Fast.tw13343964577679436407 rowL.prog rowL.prog.main.body { cps := { toList := [108, 111, 99, 97, 108, 115] } } = false := by kernel_rfl
theorem filter_no {α : Type} {f : α → Bool} {a b c : α} (x : f a = false) (y : f b = false) (z : f c = false) : R.filterR f [a, b, c] = [] := by
  rw [← R.filterR_eq]; simp [x, y, z]
theorem lk_b : R.filterR (Fast.tw13343964577679436407 rowL.prog rowL.prog.main.body) [{ cps := { toList := [118, 97, 114, 115] } }, { cps := { toList := [100, 105, 114] } }, { cps := { toList := [108, 111, 99, 97, 108, 115] } }] = [] := filter_no lk_b0 lk_b1 lk_b2
theorem road1 : Fast.tw8326940854005059898 lkL (rowL.prog.main.body.take 13) = true := by kernel_rfl
theorem road2 : Fast.tw8326940854005059898 lkL ((rowL.prog.main.body.drop 13).take 16) = true := by kernel_rfl
theorem road3 : Fast.tw8326940854005059898 lkL ((rowL.prog.main.body.drop 13).drop 16) = true := by kernel_rfl
theorem roads : Fast.tw8326940854005059898 lkL rowL.prog.main.body = true := by
  have h1 := road1
  have h2 := road2
  have h3 := road3
  rw [← Fast.te8326940854005059898] at h1 h2 h3 ⊢
  rw [← List.take_append_drop 13 rowL.prog.main.body, roads_app, h1, Bool.true_and, ← List.take_append_drop 16 (rowL.prog.main.body.drop 13), roads_app, h2, h3]
  rfl
theorem looks0 : Fast.tw11788848310118352699 rowL.prog.main = true := by kernel_rfl
theorem looks2 : ((Fast.tw9807087744658564304 rowL.prog.main.body).isEmpty || Fast.tw12862048085361865435 (Fast.tw9807087744658564304 rowL.prog.main.body) rowL.prog.main.body) = true := by kernel_rfl
theorem looks3 : Fast.tw8377067652309620493 rowL.prog = true := by kernel_rfl
theorem looks4 : (R.allR (Fast.tw18344453789297297638 rowL.prog) fun n => !@Fast.tw3471404346716756564 Str (@instBEqOfDecidableEq Str Fast.sDec) Fast.tw14412699480532031325 n) = true := by kernel_rfl
theorem looks5 : (Fast.tw17119622794617984870 rowL.prog rowL.prog.main.body fun _ n => Fast.tw17868728402115742887 n) = true := by kernel_rfl
theorem looksAll : Fast.tw12908688711261696721 rowL.prog = true := by
  delta Fast.tw12908688711261696721
  dsimp only
  refine look_both (look_both (look_both (look_both (look_both looks0 looks2) looks3) looks4) ?_) looks5
  rw [lk_s, lk_b]
  exact roads
theorem saidQ : Fast.tw9446332074065402090 PySem.Challenge.rw_ar0037_04 = true := by
  delta Fast.tw9446332074065402090 Fast.tw17960256430627541270 Fast.tw2436336058641802641
  dsimp only
  repeat' with_reducible apply look_both
  exact looksAll
  all_goals kernel_rfl
theorem said : PySem.Challenge.rw_ar0037_04.wellSaid = true := by
  rw [Fast.te9446332074065402090]; exact saidQ
end Mine
end
-- Plain
section
namespace Mine
/-- the law's own checksum, one bit -/
noncomputable def bitStep (r b : Nat) : Nat := (r >>> 1) ^^^ (if (r ^^^ b) % 2 = 1 then 3988292384 else 0)
noncomputable def lawOct (r o : Nat) : Nat := (List.range 8).foldl (fun r k => bitStep r (o >>> k)) r
noncomputable def lawFold (l : List Nat) (r : Nat) : Nat := l.foldl lawOct r
/-- the stand-in's checksum, four bits at a time -/
noncomputable def crcTab : List Nat := [1304293916, 1342890616, 1993593556, 1801765552, 996258700, 651600872, 1020740, 498631456, 2684711228, 3182584152, 2607501812, 2262581648, 3604557996, 3412992200, 3988197476, 4026531840]
noncomputable def nib (v : Nat) : Nat := (v >>> 4) ^^^ crcTab.getD (v % 16) 0
noncomputable def crcOct (v o : Nat) : Nat := nib (nib (v ^^^ o))
noncomputable def crcFold (l : List Nat) (v : Nat) : Nat := l.foldl crcOct v

noncomputable def S1 (x : Nat) : Nat := (x >>> 1) ^^^ (if x % 2 = 1 then 3988292384 else 0)
theorem mod2_xor (a b : Nat) : ((a ^^^ b) % 2 = 1) ↔ ¬ ((a % 2 = 1) ↔ (b % 2 = 1)) := Nat.xor_mod_two_eq_one
theorem S1_xor (a b : Nat) : S1 (a ^^^ b) = S1 a ^^^ S1 b := by
  unfold S1
  rw [Nat.shiftRight_xor_distrib]
  have h := mod2_xor a b
  by_cases ha : a % 2 = 1 <;> by_cases hb : b % 2 = 1 <;> simp only [ha, hb, h, not_true, not_false_iff, iff_true, iff_false, if_true, if_false, Nat.xor_zero]
  · rw [← Nat.xor_assoc, Nat.xor_assoc (a >>> 1), Nat.xor_comm 3988292384 (b >>> 1), ← Nat.xor_assoc, Nat.xor_assoc _ 3988292384, Nat.xor_self, Nat.xor_zero]
  · rw [Nat.xor_assoc, Nat.xor_comm (b >>> 1), Nat.xor_assoc]
  · rw [Nat.xor_assoc]
noncomputable def S4 (x : Nat) : Nat := S1 (S1 (S1 (S1 x)))
theorem S4_xor (a b : Nat) : S4 (a ^^^ b) = S4 a ^^^ S4 b := by simp only [S4, S1_xor]
theorem S1_even (x : Nat) : S1 (2 * x) = x := by
  unfold S1
  have : ¬ (2 * x % 2 = 1) := by omega
  rw [if_neg this, Nat.xor_zero, Nat.shiftRight_eq_div_pow]; omega
theorem S4_high (x : Nat) : S4 (16 * x) = x := by
  unfold S4
  have e : 16 * x = 2 * (2 * (2 * (2 * x))) := by omega
  rw [e, S1_even, S1_even, S1_even, S1_even]
theorem split16 (x : Nat) : x = (16 * (x >>> 4)) ^^^ (x % 16) := by
  have h : (16 * (x >>> 4)) ^^^ (x % 16) = 16 * (x >>> 4) + x % 16 := by
    have h1 := Nat.two_pow_add_eq_or_of_lt (i := 4) (b := x % 16) (by omega) (x >>> 4)
    have h2 : (2 ^ 4 * (x >>> 4)) &&& (x % 16) = 0 := by
      apply Nat.eq_of_testBit_eq
      intro i
      rw [Nat.testBit_and, Nat.testBit_two_pow_mul, Nat.zero_testBit, show (16 : Nat) = 2 ^ 4 from rfl, Nat.testBit_mod_two_pow]
      by_cases hi : i < 4
      · have : ¬ (i ≥ 4) := by omega
        simp [this]
      · simp [hi]
    have h3 : (2 ^ 4 * (x >>> 4)) ^^^ (x % 16) = (2 ^ 4 * (x >>> 4)) ||| (x % 16) := by
      apply Nat.eq_of_testBit_eq
      intro i
      have := congrArg (fun y => Nat.testBit y i) h2
      simp only [Nat.testBit_and, Nat.zero_testBit] at this
      rw [Nat.testBit_xor, Nat.testBit_or]
      cases h : Nat.testBit (2 ^ 4 * (x >>> 4)) i <;> cases h' : Nat.testBit (x % 16) i <;> simp_all
    have e : (16 : Nat) = 2 ^ 4 := rfl
    rw [show (16 * (x >>> 4)) ^^^ (x % 16) = (2 ^ 4 * (x >>> 4)) ^^^ (x % 16) from rfl, h3, ← h1]
  rw [h, Nat.shiftRight_eq_div_pow]; omega
theorem S4_split (x : Nat) : S4 x = (x >>> 4) ^^^ S4 (x % 16) := by
  have h := congrArg S4 (split16 x)
  rw [S4_xor, S4_high] at h
  exact h
noncomputable def M32 : Nat := 4294967295
theorem tab_is : ∀ n, n < 16 → crcTab.getD (15 - n) 0 = S4 n ^^^ (M32 ^^^ (M32 >>> 4)) := by decide +kernel
theorem low_inv (r : Nat) : (r ^^^ M32) % 16 = 15 - r % 16 := by
  have h : (r ^^^ M32) % 16 = (r % 16) ^^^ (M32 % 16) := by
    rw [show (16 : Nat) = 2 ^ 4 from rfl]
    exact Nat.xor_mod_two_pow
  rw [h]
  have : r % 16 < 16 := by omega
  generalize r % 16 = k at this ⊢
  revert k
  decide
theorem nib_inv (r : Nat) : nib (r ^^^ M32) = S4 r ^^^ M32 := by
  unfold nib
  rw [low_inv, tab_is _ (by omega), Nat.shiftRight_xor_distrib, S4_split r]
  have e : r % 16 % 16 = r % 16 := by omega
  rw [Nat.xor_assoc, Nat.xor_assoc, Nat.xor_comm (M32 >>> 4), Nat.xor_assoc, Nat.xor_assoc, Nat.xor_self, Nat.xor_zero]
theorem crcOct_inv (r o : Nat) : crcOct (r ^^^ M32) o = S4 (S4 (r ^^^ o)) ^^^ M32 := by
  unfold crcOct
  rw [show r ^^^ M32 ^^^ o = (r ^^^ o) ^^^ M32 by rw [Nat.xor_assoc, Nat.xor_comm M32, Nat.xor_assoc], nib_inv, nib_inv]
theorem bitStep_S1 (r b : Nat) : bitStep r b = S1 (r ^^^ b) ^^^ (b >>> 1) := by
  unfold bitStep S1
  rw [Nat.shiftRight_xor_distrib]
  generalize (if (r ^^^ b) % 2 = 1 then 3988292384 else 0) = c
  rw [Nat.xor_assoc (r >>> 1) (b >>> 1) c, Nat.xor_comm (b >>> 1) c, ← Nat.xor_assoc, Nat.xor_assoc, Nat.xor_self, Nat.xor_zero]
theorem xx (a b : Nat) : a ^^^ b ^^^ b = a := by rw [Nat.xor_assoc, Nat.xor_self, Nat.xor_zero]
theorem lawOct_is (r o : Nat) (h : o < 256) : lawOct r o = S4 (S4 (r ^^^ o)) := by
  unfold lawOct
  rw [show List.range 8 = [0, 1, 2, 3, 4, 5, 6, 7] from rfl]
  simp only [List.foldl_cons, List.foldl_nil, bitStep_S1, ← Nat.shiftRight_add, Nat.reduceAdd, Nat.shiftRight_zero, xx]
  have : o >>> 8 = 0 := by rw [Nat.shiftRight_eq_div_pow]; omega
  rw [this, Nat.xor_zero]; rfl
theorem S1_lt {x : Nat} (h : x < 4294967296) : S1 x < 4294967296 := by
  unfold S1
  have h1 : x >>> 1 < 2 ^ 32 := by rw [Nat.shiftRight_eq_div_pow]; omega
  split
  · exact Nat.xor_lt_two_pow h1 (by decide)
  · rw [Nat.xor_zero]; exact h1
theorem S4_lt {x : Nat} (h : x < 4294967296) : S4 x < 4294967296 := S1_lt (S1_lt (S1_lt (S1_lt h)))
theorem xor_lt32 {a b : Nat} (h : a < 4294967296) (h' : b < 4294967296) : a ^^^ b < 4294967296 := Nat.xor_lt_two_pow (n := 32) h h'
theorem folds_meet : ∀ (l : List Nat) (r : Nat), (∀ o ∈ l, o < 256) → crcFold l (r ^^^ M32) = lawFold l r ^^^ M32
  | [], _, _ => rfl
  | o :: l, r, h => by
    have h1 := lawOct_is r o (h o (.head _))
    show crcFold l (crcOct (r ^^^ M32) o) = lawFold l (lawOct r o) ^^^ M32
    rw [crcOct_inv, h1]
    exact folds_meet l _ fun x hx => h x (.tail _ hx)
theorem lawFold_lt : ∀ (l : List Nat) (r : Nat), (∀ o ∈ l, o < 256) → r < 4294967296 → lawFold l r < 4294967296
  | [], _, _, h => h
  | o :: l, r, h, hr => by
    have h1 := lawOct_is r o (h o (.head _))
    have h2 := h o (.head _)
    show lawFold l (lawOct r o) < _
    refine lawFold_lt l _ (fun x hx => h x (.tail _ hx)) ?_
    rw [h1]
    exact S4_lt (S4_lt (xor_lt32 hr (by omega)))
theorem xor_M32 {r : Nat} (h : r < 4294967296) : r ^^^ M32 = M32 - r := by
  apply Nat.eq_of_testBit_eq
  intro i
  rw [Nat.testBit_xor, show M32 - r = 2 ^ 32 - (r + 1) by unfold M32; omega, Nat.testBit_two_pow_sub_succ h, show M32 = 2 ^ 32 - 1 from rfl, Nat.testBit_two_pow_sub_one]
  by_cases hi : i < 32
  · simp [hi]
  · have : Nat.testBit r i = false := by
      apply Nat.testBit_lt_two_pow
      refine Nat.lt_of_lt_of_le h ?_
      show 2 ^ 32 ≤ 2 ^ i
      exact Nat.pow_le_pow_right (by decide) (by omega)
    simp [hi, this]
/-- the two checksums are one -/
theorem sums_meet (l : List Nat) (h : ∀ o ∈ l, o < 256) : crcFold l 0 = M32 - lawFold l M32 := by
  have h1 := folds_meet l M32 h
  rw [Nat.xor_self] at h1
  rw [h1, xor_M32 (lawFold_lt l _ h (by decide))]
theorem crcFold_append (a b : List Nat) (v : Nat) : crcFold (a ++ b) v = crcFold b (crcFold a v) := List.foldl_append
theorem crcFold_lt (l : List Nat) (h : ∀ o ∈ l, o < 256) {v : Nat} (hv : v < 4294967296) : crcFold l v < 4294967296 := by
  have e : v = (v ^^^ M32) ^^^ M32 := (xx v M32).symm
  rw [e, folds_meet _ _ h]
  exact xor_lt32 (lawFold_lt _ _ h (xor_lt32 hv (by decide))) (by decide)
end Mine
end
-- Base
section
open PySem PySem.W PyProof.Rows PySem.Calls PySem.Spec
set_option Elab.async false
set_option maxRecDepth 100000
set_option maxHeartbeats 4000000
namespace Mine
/- the bit operations on ints that lie at or above nought -/
theorem mod2_and (a b : Nat) : ((a &&& b) % 2 = 1) ↔ (a % 2 = 1 ∧ b % 2 = 1) := Nat.and_mod_two_eq_one
theorem add_xor_and (a : Nat) : ∀ b : Nat, a + b = (a ^^^ b) + 2 * (a &&& b) := by
  induction a using Nat.strongRecOn with
  | ind a ih =>
    intro b
    by_cases h0 : a = 0
    · subst h0; simp
    · have h := ih (a / 2) (by omega) (b / 2)
      have e1 : (a ^^^ b) / 2 = a / 2 ^^^ b / 2 := Nat.xor_div_two
      have e2 : (a &&& b) / 2 = a / 2 &&& b / 2 := Nat.and_div_two
      rw [← e1, ← e2] at h
      have h1 := mod2_xor a b
      have h2 := mod2_and a b
      by_cases ha : a % 2 = 1 <;> by_cases hb : b % 2 = 1 <;> simp only [ha, hb, and_true, and_false, not_true, not_false_iff, iff_true, iff_false, iff_self] at h1 h2 <;> omega
theorem bitAnd_nat (a b : Nat) : Builtin.bitAnd (a : Int) (b : Int) = ((a &&& b : Nat) : Int) := by
  unfold Builtin.bitAnd
  simp
theorem bitXor_nat (a b : Nat) : Builtin.bitXor (a : Int) (b : Int) = ((a ^^^ b : Nat) : Int) := by
  rw [bitXor_and, bitAnd_nat]
  have := add_xor_and a b
  omega
theorem warm : (PySem.Challenge.rw_ar0037_04 = PySem.Challenge.rw_ar0037_04) ∧ (∀ P, Kc P = Kc P) := by
  k_fill
  exact ⟨rfl, fun _ => rfl⟩
/- an item of the checksum's table -/
theorem tab_item {prog : Program} {w : World} {A : Around} {E : Value → Shared → Prop} {s : Shared} {h₀ : Heap} {L : Addr} {m : Str → Option Value} {value slice : PySem.Expr} {k : Int} {u : Tok} {Q : Value → Shared → Prop}
    (F : Fr h₀ L s.heap m) (X : (Kc w.params).In h₀) (h0 : 0 ≤ k) (h1 : k < 16) (h : ∀ t, Q (.int (crcTab.getD k.toNat 0 : Nat) t) s)
    (hs : subscripted slice false (.ref 68) (.int k u) = operate [.ref 68, .int k u] (getItem (.ref 68) (.int k u)) := by with_unfolding_all rfl) :
    wpAny (model prog w) A (subscriptTail value slice (.ref 68) (.int k u)) Q E s := by
  obtain ⟨j, rfl⟩ := Int.eq_ofNat_of_zero_le h0
  have hj : j < 16 := by omega
  have hl : (Kc w.params).lookup 68 = some (o68 w.params) := rfl
  have key : ∀ j : Nat, j < 16 → ∃ t, ([.int (1304293916) 451, .int (1342890616) 452, .int (1993593556) 453, .int (1801765552) 454, .int (996258700) 455, .int (651600872) 456, .int (1020740) 457, .int (498631456) 458, .int (2684711228) 459, .int (3182584152) 460, .int (2607501812) 461, .int (2262581648) 462, .int (3604557996) 463, .int (3412992200) 464, .int (3988197476) 465, .int (4026531840) 466] : List Value)[j]? = some (.int (crcTab.getD j 0 : Nat) t) := by
    intro j hj
    rcases j with _ | _ | _ | _ | _ | _ | _ | _ | _ | _ | _ | _ | _ | _ | _ | _ | j
    all_goals first | exact ⟨_, rfl⟩ | omega
  obtain ⟨t, ht⟩ := key j hj
  refine topTup_K (j := j) F X hl (by omega) (by omega) ?_ ht (h t) hs
  have hn : ¬ ((j : Int) < 0) := by omega
  simp [seqIndex?, hn]
  omega
/- one octet of the checksum, as the walk says it -/
noncomputable def nibI (v : Int) : Int := Builtin.bitXor (v.fdiv (2 ^ (4 : Int).toNat)) (crcTab.getD (Builtin.bitAnd v 15).toNat 0 : Nat)
end Mine
namespace Mine
theorem nibI_nat (v : Nat) : nibI (v : Int) = (nib v : Nat) := by
  unfold nibI nib
  have e1 : (v : Int).fdiv (2 ^ (4 : Int).toNat) = ((v >>> 4 : Nat) : Int) := by
    rw [Nat.shiftRight_eq_div_pow, Int.fdiv_eq_ediv_of_nonneg _ (by decide)]
    rfl
  have e2 : (Builtin.bitAnd (v : Int) 15).toNat = v % 16 := by rw [bitAnd_m4]; omega
  rw [e1, e2, bitXor_nat]
theorem crc_turn {pre : List Int} {V : Nat} {v n : Int} (hv : v = ((crcFold (pre.map Int.toNat) V : Nat) : Int)) (h0 : 0 ≤ n) :
    nibI (nibI (Builtin.bitXor v n)) = ((crcFold ((pre ++ [n]).map Int.toNat) V : Nat) : Int) := by
  obtain ⟨k, rfl⟩ := Int.eq_ofNat_of_zero_le h0
  rw [hv, bitXor_nat, nibI_nat, nibI_nat, List.map_append, crcFold_append]
  rfl
end Mine
end
-- M0
section
open PySem PySem.W PySem.W.X PyProof.Rows PySem.Calls PySem.Spec
set_option Elab.async false
set_option maxRecDepth 100000
set_option maxHeartbeats 4000000
namespace Mine
/-- a wide room -/
noncomputable abbrev bigA : Around := { handled := none, depth := 900, frames := none, guards := none, units := 900 }
theorem at_any {prog : Program} {w : World} {A : Around} {α : Type} {t : Sem α} {Q : α → Shared → Prop} {E : Value → Shared → Prop} {s : Shared} (hh : A.handled = none) (hd : A.depth ≤ 900) (hu : A.units ≤ 900)
    (h : wpAny (model prog w) bigA t Q E s) : wpAny (model prog w) A t Q E s := by
  intro Γ p hΓ
  refine h Γ p ⟨?_, Nat.le_trans hΓ.2.1 hd, (fun l hl => nomatch hl), (fun g hg => nomatch hg), Nat.le_trans hΓ.2.2.2.2 hu⟩
  rw [hΓ.1, hh]
theorem mem_old {h₀ h : Heap} {news : List (Addr × Obj)} (D : Mem h₀ h [] news) : ∀ b o, h₀.get? b = some o → h.get? b = some o := by
  intro b o e
  exact D.keep b o e (by simp [away])
set_option hygiene false in
local macro_rules | `(tactic| x_close) => `(tactic| (first | exact hret _ _ _ (mem_old (by assumption)) | exact hret _ _ _ (fun _ _ e => e) | (trace_state; fail "no end")))
theorem bytes_bytes {prog : Program} {w : World} {s : Shared} {E : Value → Shared → Prop} {Q : Value → Shared → Prop} {b : Array UInt8} {t : Tok}
  (hret : ∀ h' k t', (∀ a o, s.heap.get? a = some o → h'.get? a = some o) → Q (.bytes b t') { s with heap := h', toks := k }) :
  wpAny (model prog w) bigA (call (.type "bytes") [.bytes b t]) Q E s := by
  x_run
theorem bytes_K2 {prog : Program} {w : World} {A : Around} {E : Value → Shared → Prop} {s : Shared} {h₀ : Heap} {L : Addr} {m : Str → Option Value} {news : List (Addr × Obj)} {Q : Value → Shared → Prop} {b : Array UInt8} {t : Tok}
    (hh : A.handled = none) (hd : A.depth ≤ 900) (hu : A.units ≤ 900) (F : Fr h₀ L s.heap m) (N : News h₀ L s.heap news)
    (h : ∀ h' k t', Fr h₀ L h' m → News h₀ L h' news → Q (.bytes b t') { s with heap := h', toks := k }) : wpAny (model prog w) A (call (.type "bytes") [.bytes b t]) Q E s :=
  at_any hh hd hu (bytes_bytes fun h' k t' hk => h h' k t' (F.keeps hk) (fun q hq => ⟨hk _ _ (N q hq).1, (N q hq).2⟩))
/- += of two byte strings -/
theorem noI_bytes_add : typeLookup (.type "bytes") (dunderI "add") = pure none := by rw [typeLookup_type, builtinLookup_eq_fast]; kernel_rfl
theorem iadd_bytes {prog : Program} {w : World} {A : Around} {E : Value → Shared → Prop} {s : Shared} {b c : Array UInt8} {t u : Tok} {Q : Value → Shared → Prop} (hsz : b.size + c.size ≤ 16777216)
    (h : ∀ t' k, Q (.bytes (b ++ c) t') { s with toks := k }) : wpAny (model prog w) A (inplaceOp .Add (.bytes b t) (.bytes c u)) Q E s := by
  refine iconcat_gives (typeIs_bytes s b t) (typeIs_bytes s c u) noI_bytes_add KBy.noFill_bytes_add KBy.seq_bytes_add FB.slot_bytes_add FB.entry_bytes_add (FB.args_bytes_add_2 _ _) (KBy.gives_bytes_add (KBy.tooLong_not hsz)) ?_
  by_cases hb : b.isEmpty = true
  · rw [if_pos hb]
    have e : b = #[] := Array.isEmpty_iff.1 hb
    have h' := h u s.toks
    rw [e, Array.empty_append] at h'
    exact h'
  · rw [if_neg hb]
    by_cases hc : c.isEmpty = true
    · rw [if_pos hc]
      have e : c = #[] := Array.isEmpty_iff.1 hc
      have h' := h t s.toks
      rw [e, Array.append_empty] at h'
      exact h'
    · rw [if_neg hc]
      exact ⟨by rw [Array.size_append, sizeLine_eq]; exact hsz, h s.toks (s.toks + 1)⟩
/-- four octets, the highest first -/
noncomputable def be4 (n : Nat) : List UInt8 := [(n / 16777216 % 256).toUInt8, (n / 65536 % 256).toUInt8, (n / 256 % 256).toUInt8, (n % 256).toUInt8]
theorem ib4 (n : Int) (h0 : 0 ≤ n) (h1 : n < 4294967296) : Builtin.Struct.intBytes true 4 n = (be4 n.toNat).toArray := by
  have e : (n % 2 ^ (8 * 4)).toNat = n.toNat := by
    rw [Int.emod_eq_of_lt h0 (by omega)]
  unfold Builtin.Struct.intBytes
  rw [e]
  generalize n.toNat = k
  have e2 : Builtin.Memoryview.toLittleEndian 4 k = #[(k / 1 % 256).toUInt8, (k / 256 % 256).toUInt8, (k / 65536 % 256).toUInt8, (k / 16777216 % 256).toUInt8] := rfl
  rw [e2, Nat.div_one]
  simp [be4]
open Builtin Builtin.Struct in
theorem pack_tree {M : Model} {A : Around} {E : Value → Shared → Prop} {s : Shared} {Q : Fin → Shared → Prop} {n : Int} {t u : Tok} (h0 : 0 ≤ n) (h1 : n < 4294967296)
  (h : Q (.done (.ret (.bytes (be4 n.toNat).toArray s.toks))) { s with toks := s.toks + 1 }) :
  wpAny M A (Builtin.«_struct.pack» ⟨[.str (Str.ofString "!I") u, .int n t], []⟩) Q E s := by
  show wpAny M A (moduleFormat (.str (Str.ofString "!I") u) >>= fun f => Struct.packed "_struct.pack" "pack" f [.int n t]) Q E s
  refine wpAny_bind (wpAny_of_eq (a := (⟨true, false, [⟨'I', 1, 0, 4⟩], 4, 1⟩ : Format)) (by kernel_rfl) ?_)
  unfold Struct.packed
  refine bm_if_false rfl ?_
  refine bm_if_false rfl ?_
  refine wpAny_bind ?_
  unfold packEach
  dsimp only
  refine wpAny_bind ?_
  rw [List.forIn_cons]
  refine wpAny_bind ?_
  refine bm_if_false rfl ?_
  refine bm_if_false rfl ?_
  refine wpAny_bind ?_
  rw [show forIn (m := Sem) [:1] = forIn (m := Sem) (List.range' 0 1 1) from by funext; simp [Std.Legacy.Range.forIn_eq_forIn_range']]
  rw [show List.range' 0 1 = [0] from rfl, List.forIn_cons]
  refine wpAny_bind ?_
  dsimp only
  refine wpAny_bind ?_
  k_delta "packOne"
  refine wpAny_bind ?_
  refine wpAny_attempt ?_
  k_delta "intArg"
  refine wpAny_bind (wpAny_of_eq (a := some n) rfl ?_)
  refine wpAny_pure ?_
  show wpAny M A (pure n >>= fun i => if (decide (i < 0) || decide (i > 4294967295)) = true then _ else pure (intBytes true 4 i)) _ E s
  refine wpAny_bind (wpAny_pure ?_)
  refine bm_if_false (by rw [decide_eq_false (by omega), decide_eq_false (by omega)]; rfl) ?_
  refine wpAny_pure (wpAny_bind (wpAny_pure (wpAny_pure ?_)))
  dsimp only
  rw [List.forIn_nil]
  refine wpAny_pure (wpAny_pure (wpAny_pure ?_))
  dsimp only
  refine wpAny_pure (wpAny_bind (wpAny_mkBytes (wpAny_pure ?_) ?_))
  · rw [ib4 n h0 h1]; exact h
  · rw [ib4 n h0 h1]; exact (by decide : 4 ≤ sizeLine)
theorem pack_any {prog : Program} {w : World} {A : Around} {E : Value → Shared → Prop} {s : Shared} {Q : Value → Shared → Prop} {n : Int} {t u : Tok} (h0 : 0 ≤ n) (h1 : n < 4294967296)
    (h : ∀ t' k, Q (.bytes (be4 n.toNat).toArray t') { s with toks := k }) : wpAny (model prog w) A (call (.builtin "_struct.pack") [.str (Str.ofString "!I") u, .int n t]) Q E s :=
  call_function_entry (by decide +kernel) (by decide +kernel) (entryFor_of_fast (by kernel_rfl)) (by unfold argsOk; kernel_rfl) (pack_tree h0 h1 ⟨_, rfl, h _ _⟩)
end Mine
end
-- M1
section
open PySem PySem.W PySem.W.X PyProof.Rows PySem.Calls PySem.Spec
set_option Elab.async false
set_option maxRecDepth 100000
set_option maxHeartbeats 4000000
namespace Mine
theorem reset_M1 : True := by
  w_top off
  trivial
theorem warm1 : (PySem.Challenge.rw_ar0037_04 = PySem.Challenge.rw_ar0037_04) ∧ (∀ P, Kc P = Kc P) := by
  k_fill
  exact ⟨rfl, fun _ => rfl⟩
noncomputable abbrev octObj (P : Params) (B : Array UInt8) (t tk : Tok) : Obj := dictOf [⟨PyData.keyHash P (Str.ofString "octets"), .str (Str.ofString "octets") tk, .bytes B t⟩] 1
local macro_rules | `(tactic| walk_at "subscriptTail") => `(tactic| (k_here; (with_reducible show wpAny _ _ (subscriptTail _ _ (Value.ref 68) (Value.int _ _)) _ _ _); k_dflt (refine' tab_item ?k1 ?k2 ?k3 ?k4 ?_; (case k1 => k_asm); (case k2 => k_asm); (case k3 => (rw [bitAnd_m4]; omega)); (case k4 => (rw [bitAnd_m4]; omega)); k_whole); intro tT'))
local macro_rules | `(tactic| walk_at "inplaceOp Add bytes bytes") => `(tactic| (k_here; (with_reducible show wpAny _ _ (inplaceOp Operator.Add (Value.bytes _ _) (Value.bytes _ _)) _ _ _); k_dflt (refine' iadd_bytes ?z ?_; (case z => assumption); k_whole); intro tT' kT'))
theorem write_spec {prog : Program} {w : World} {p : Program} {loose : List Str} {mean : ExcName → Option Value} {mg mb : Str → Option Value}
  {dp un : Nat} {gd : Option (List Code)} {cn : Str} {cs : Scope} {a : Addr} {ccd : Value} {cl : List (Str × Addr)} {outer : List Env} {A₀ : Around} {base h₀ : Heap} {L : Addr} {m : Str → Option Value} {s : Shared} {Q E : Value → Shared → Prop}
  {x dx : Addr} {C D : Array UInt8} {t tk u : Tok} {rest : List (Addr × Obj)}
  (B : Below A₀ base outer h₀) (F : Fr h₀ L s.heap m) (X : (Kc w.params).In h₀) (N : News h₀ L s.heap ((x, instObj 126 dx) :: (dx, octObj w.params C t tk) :: rest)) (T : Top p loose mean mg mb h₀) (hk : cs.kind = .function)
  (hne : @Ne Nat x dx) (hoff : OwnOff rest [x, dx]) (hd : dp ≤ 400) (hu : un ≤ 400) (hsz : C.size + D.size ≤ 16777216)
  (ret : ∀ h' tk' t', Fr h₀ L h' m → News h₀ L h' ((x, instObj 126 dx) :: (dx, octObj w.params (C ++ D) t' tk) :: rest) → Q .none { s with heap := h', toks := tk' }) :
  wpAny (model prog w) (ktrTop dp un gd cn cs L a ccd cl outer) (call (.ref 97) [.ref x, .bytes D u]) Q E s := by
  refine wpAny_call ?_
  k_dflt (refine' code_def ?k1 ?k2 ?k3 ?k4 ?k5 ?kA ?kF ?kK ?k6 ?k7 ?k8 ?k9 ?kB ?_ ?c2 ?c3 ?c4 ?c5; (case kA => exact rfl); (case kF => exact rfl); (case kK => assumption); (case k1 => k_asm); (case k2 => k_asm); (case k3 => k_asm); (case k4 => k_asm); (case k5 => k_asm); (case k6 => k_is); (case k7 => k_is); (case k8 => ktr_room); (case k9 => first | exact BindsTo.of_eq rfl | exact binds_K (by k_in) rfl (by k_is) rfl rfl rfl | fail "k_enter: no rule for these arguments"); (case c5 => decide); (case kB => exact locs rfl); (case c2 => exact rfl); (case c3 => exact rfl); (case c4 => exact rfl); k_whole; intro g' L' h' FG' F' N' B' X' T'; (try dsimp only); (try k_lift B'); (try k_fold))
  dsimp only [b97, p97, s97] at *
  k_steps
  all_goals exact ret _ _ _ (by assumption) (by assumption)
theorem crc_end {D : Array UInt8} {V : Nat} {z : Int} : (z = ((crcFold (List.map Int.toNat (List.map (fun c : UInt8 => (c.toNat : Int)) D.toList)) V : Nat) : Int)) ↔ (z = ((crcFold (D.toList.map UInt8.toNat) V : Nat) : Int)) := by
  rw [List.map_map]; exact Iff.rfl
theorem crc2_spec {prog : Program} {w : World} {p : Program} {loose : List Str} {mean : ExcName → Option Value} {mg mb : Str → Option Value}
  {dp un : Nat} {gd : Option (List Code)} {cn : Str} {cs : Scope} {a : Addr} {ccd : Value} {cl : List (Str × Addr)} {outer : List Env} {A₀ : Around} {base h₀ : Heap} {L : Addr} {m : Str → Option Value} {s : Shared} {Q E : Value → Shared → Prop}
  {D : Array UInt8} {t u : Tok} {V : Nat} {news : List (Addr × Obj)}
  (B : Below A₀ base outer h₀) (F : Fr h₀ L s.heap m) (X : (Kc w.params).In h₀) (N : News h₀ L s.heap (news)) (T : Top p loose mean mg mb h₀) (hk : cs.kind = .function)
  (hd : dp ≤ 400) (hu : un ≤ 400) (hsz : D.size ≤ 1000000) (h1 : V < 4294967296)
  (ret : ∀ h' tk' t', Fr h₀ L h' m → News h₀ L h' news → Q (.int ((crcFold (D.toList.map UInt8.toNat) V : Nat) : Int) t') { s with heap := h', toks := tk' }) :
  wpAny (model prog w) (ktrTop dp un gd cn cs L a ccd cl outer) (call (.ref 145) [.ref 169, .bytes D u, .int (V : Int) t]) Q E s := by
  refine wpAny_call ?_
  k_dflt (refine' code_def ?k1 ?k2 ?k3 ?k4 ?k5 ?kA ?kF ?kK ?k6 ?k7 ?k8 ?k9 ?kB ?_ ?c2 ?c3 ?c4 ?c5; (case kA => exact rfl); (case kF => exact rfl); (case kK => assumption); (case k1 => k_asm); (case k2 => k_asm); (case k3 => k_asm); (case k4 => k_asm); (case k5 => k_asm); (case k6 => k_is); (case k7 => k_is); (case k8 => ktr_room); (case k9 => first | exact BindsTo.of_eq rfl | exact binds_K (by k_in) rfl (by k_is) rfl rfl rfl | fail "k_enter: no rule for these arguments"); (case c5 => decide); (case kB => exact locs rfl); (case c2 => exact rfl); (case c3 => exact rfl); (case c4 => exact rfl); k_whole; intro g' L' h' FG' F' N' B' X' T'; (try dsimp only); (try k_lift B'); (try k_fold))
  dsimp only [b145, p145, s145]
  k_with "state" => (first | exact rfl | exact crc_turn (by assumption) (by assumption) | fail "state")
  k_with "pyIter bytes" => k_state (fun pre v => v = ((crcFold (pre.map Int.toNat) V : Nat) : Int)) "value"
  k_steps
  all_goals (rw [crc_end] at kInv; subst kInv; exact ret _ _ _ (by assumption) (by assumption))
theorem crc1_spec {prog : Program} {w : World} {p : Program} {loose : List Str} {mean : ExcName → Option Value} {mg mb : Str → Option Value}
  {dp un : Nat} {gd : Option (List Code)} {cn : Str} {cs : Scope} {a : Addr} {ccd : Value} {cl : List (Str × Addr)} {outer : List Env} {A₀ : Around} {base h₀ : Heap} {L : Addr} {m : Str → Option Value} {s : Shared} {Q E : Value → Shared → Prop}
  {D : Array UInt8} {u : Tok} {news : List (Addr × Obj)}
  (B : Below A₀ base outer h₀) (F : Fr h₀ L s.heap m) (X : (Kc w.params).In h₀) (N : News h₀ L s.heap (news)) (T : Top p loose mean mg mb h₀) (hk : cs.kind = .function)
  (hd : dp ≤ 400) (hu : un ≤ 400) (hsz : D.size ≤ 1000000)
  (ret : ∀ h' tk' t', Fr h₀ L h' m → News h₀ L h' news → Q (.int ((crcFold (D.toList.map UInt8.toNat) 0 : Nat) : Int) t') { s with heap := h', toks := tk' }) :
  wpAny (model prog w) (ktrTop dp un gd cn cs L a ccd cl outer) (call (.ref 145) [.ref 169, .bytes D u]) Q E s := by
  refine wpAny_call ?_
  k_dflt (refine' code_def ?k1 ?k2 ?k3 ?k4 ?k5 ?kA ?kF ?kK ?k6 ?k7 ?k8 ?k9 ?kB ?_ ?c2 ?c3 ?c4 ?c5; (case kA => exact rfl); (case kF => exact rfl); (case kK => assumption); (case k1 => k_asm); (case k2 => k_asm); (case k3 => k_asm); (case k4 => k_asm); (case k5 => k_asm); (case k6 => k_is); (case k7 => k_is); (case k8 => ktr_room); (case k9 => first | exact BindsTo.of_eq rfl | exact binds_K (by k_in) rfl (by k_is) rfl rfl rfl | fail "k_enter: no rule for these arguments"); (case c5 => decide); (case kB => exact locs rfl); (case c2 => exact rfl); (case c3 => exact rfl); (case c4 => exact rfl); k_whole; intro g' L' h' FG' F' N' B' X' T'; (try dsimp only); (try k_lift B'); (try k_fold))
  dsimp only [b145, p145, s145]
  k_with "state" => (first | exact rfl | exact crc_turn (by assumption) (by assumption) | fail "state")
  k_with "pyIter bytes" => k_state (fun pre v => v = ((crcFold (pre.map Int.toNat) 0 : Nat) : Int)) "value"
  k_steps
  all_goals (rw [crc_end] at kInv; subst kInv; exact ret _ _ _ (by assumption) (by assumption))
end Mine
end
-- M2
section
open PySem PySem.W PySem.W.X PyProof.Rows PySem.Calls PySem.Spec
set_option Elab.async false
set_option maxRecDepth 100000
set_option maxHeartbeats 4000000
namespace Mine
local macro_rules | `(tactic| walk_at "none at all") => `(tactic| fail)
local macro_rules | `(tactic| walk_at "none at all") => `(tactic| fail)
local macro_rules | `(tactic| walk_at "none at all") => `(tactic| fail)
theorem reset_M2 : True := by
  w_top off
  trivial
theorem warm2 : (PySem.Challenge.rw_ar0037_04 = PySem.Challenge.rw_ar0037_04) ∧ (∀ P, Kc P = Kc P) := by
  k_fill
  exact ⟨rfl, fun _ => rfl⟩
theorem octs_lt {D : Array UInt8} : ∀ o ∈ D.toList.map UInt8.toNat, o < 256 := by
  intro o ho
  obtain ⟨c, _, rfl⟩ := List.mem_map.mp ho
  exact UInt8.toNat_lt c

theorem be4_len (n : Nat) : (be4 n).length = 4 := rfl
theorem and_mask {k : Nat} (hk : k < 4294967296) : Builtin.bitAnd (k : Int) (2 ^ (32 : Int).toNat - 1) = (k : Int) := by
  have e : (2 ^ (32 : Int).toNat - 1 : Int) = 4294967295 := by decide
  rw [e, bitAnd_m32]
  omega
theorem pack_nat {prog : Program} {w : World} {A : Around} {E : Value → Shared → Prop} {s : Shared} {Q : Value → Shared → Prop} {n : Int} {k : Nat} {t u : Tok} (e : n = (k : Int)) (h1 : k < 4294967296)
    (h : ∀ t' z, Q (.bytes (be4 k).toArray t') { s with toks := z }) : wpAny (model prog w) A (call (.builtin "_struct.pack") [.str (Str.ofString "!I") u, .int n t]) Q E s := by
  subst e
  exact pack_any (by omega) (by omega) h
theorem len_bytes' {prog : Program} {w : World} {A : Around} {E : Value → Shared → Prop} {s : Shared} {b : Array UInt8} {t : Tok} {Q : Value → Shared → Prop} (hfit : b.size ≤ 1099511627776) (h : ∀ t' k, Q (.int (b.size : Nat) t') { s with toks := k }) :
    wpAny (model prog w) A (call (.builtin "len") [.bytes b t]) Q E s := len_bytes hfit (h _ _)
local macro_rules | `(tactic| walk_at "call type:bytes") => `(tactic| (k_here; (with_reducible show wpAny _ _ (call (Value.type "bytes") [Value.bytes _ _]) _ _ _); k_dflt (refine' bytes_K2 ?h ?d ?u ?F ?N ?_; (case h => exact rfl); (case d => (simp only [depth_deeper]; omega)); (case u => (simp only [units_deeper]; omega)); (case F => k_asm); (case N => k_asm); k_whole); intro h' k' t' F' N'))
local macro_rules | `(tactic| walk_at "call builtin:len") => `(tactic| (k_here; (with_reducible show wpAny _ _ (call (Value.builtin "len") [Value.bytes _ _]) _ _ _); k_dflt (refine' len_bytes' ?z ?_; (case z => first | omega | decide); k_whole); intro t' k'))
local macro_rules | `(tactic| walk_at "call builtin:_struct.pack") => `(tactic| (k_here; k_dflt (first | (refine' pack_nat (rfl : _ = ((_ : Nat) : Int)) ?b ?_; (case b => first | omega | decide); k_whole) | (refine' pack_nat (and_mask ?b) ?b ?_; (case b => exact crcFold_lt _ octs_lt (crcFold_lt _ octs_lt (by decide))); k_whole)); intro t' k'))
local macro_rules | `(tactic| walk_at "call ref") => `(tactic| (k_here; (with_reducible show wpAny _ _ (call (Value.ref 97) [Value.ref _, Value.bytes _ _]) _ _ _); k_dflt (refine' write_spec ?B ?F ?X ?N ?T ?K ?ne ?off ?hd ?hu ?sz ?_; (case B => k_asm); (case F => k_asm); (case X => k_asm); (case N => k_asm); (case T => k_asm); (case K => exact rfl); (case ne => assumption); (case off => assumption); (case hd => (dsimp only [ktrTop, Around.deeper]; omega)); (case hu => (dsimp only [ktrTop, Around.deeper]; omega)); (case sz => (simp only [Array.size_append, be4_len, List.size_toArray, List.length_nil]; omega)); k_whole); intro h' k' t' F' N'))

local macro_rules | `(tactic| walk_at "call ref") => `(tactic| (k_here; (with_reducible show wpAny _ _ (call (Value.ref 145) [Value.ref 169, Value.bytes _ _]) _ _ _); k_dflt (refine' crc1_spec ?B ?F ?X ?N ?T ?K ?hd ?hu ?sz ?_; (case B => k_asm); (case F => k_asm); (case X => k_asm); (case N => k_asm); (case T => k_asm); (case K => exact rfl); (case hd => (dsimp only [ktrTop, Around.deeper]; omega)); (case hu => (dsimp only [ktrTop, Around.deeper]; omega)); (case sz => omega); k_whole); intro h' k' t' F' N'))
local macro_rules | `(tactic| walk_at "call ref") => `(tactic| (k_here; (with_reducible show wpAny _ _ (call (Value.ref 145) [Value.ref 169, Value.bytes _ _, Value.int _ _]) _ _ _); k_dflt (refine' crc2_spec ?B ?F ?X ?N ?T ?K ?hd ?hu ?sz ?v ?_; (case B => k_asm); (case F => k_asm); (case X => k_asm); (case N => k_asm); (case T => k_asm); (case K => exact rfl); (case hd => (dsimp only [ktrTop, Around.deeper]; omega)); (case hu => (dsimp only [ktrTop, Around.deeper]; omega)); (case sz => first | omega | decide); (case v => exact crcFold_lt _ octs_lt (by decide)); k_whole); intro h' k' t' F' N'))
theorem wc2_spec {prog : Program} {w : World} {p : Program} {loose : List Str} {mean : ExcName → Option Value} {mg mb : Str → Option Value}
  {dp un : Nat} {gd : Option (List Code)} {cn : Str} {cs : Scope} {a : Addr} {ccd : Value} {cl : List (Str × Addr)} {outer : List Env} {A₀ : Around} {base h₀ : Heap} {L : Addr} {m : Str → Option Value} {s : Shared} {Q E : Value → Shared → Prop}
  {x dx : Addr} {C K D : Array UInt8} {t tk u v : Tok} {rest : List (Addr × Obj)}
  (B : Below A₀ base outer h₀) (F : Fr h₀ L s.heap m) (X : (Kc w.params).In h₀) (N : News h₀ L s.heap ((x, instObj 126 dx) :: (dx, octObj w.params C t tk) :: rest)) (T : Top p loose mean mg mb h₀) (hk : cs.kind = .function)
  (hne : @Ne Nat x dx) (hoff : OwnOff rest [x, dx]) (hd : dp ≤ 390) (hu : un ≤ 380) (hz1 : C.size ≤ 100000) (hz2 : K.size ≤ 1000) (hz3 : D.size ≤ 1000)
  (ret : ∀ h' tk' t', Fr h₀ L h' m → News h₀ L h' ((x, instObj 126 dx) :: (dx, octObj w.params (C ++ (be4 D.size).toArray ++ K ++ D ++ (be4 (crcFold (List.map UInt8.toNat D.toList) (crcFold (List.map UInt8.toNat K.toList) 0))).toArray) t' tk) :: rest) → Q .none { s with heap := h', toks := tk' }) :
  wpAny (model prog w) (ktrTop dp un gd cn cs L a ccd cl outer) (call (.ref 379) [.ref x, .bytes K u, .bytes D v]) Q E s := by
  refine wpAny_call ?_
  k_dflt (refine' code_def ?k1 ?k2 ?k3 ?k4 ?k5 ?kA ?kF ?kK ?k6 ?k7 ?k8 ?k9 ?kB ?_ ?c2 ?c3 ?c4 ?c5; (case kA => exact rfl); (case kF => exact rfl); (case kK => assumption); (case k1 => k_asm); (case k2 => k_asm); (case k3 => k_asm); (case k4 => k_asm); (case k5 => k_asm); (case k6 => k_is); (case k7 => k_is); (case k8 => ktr_room); (case k9 => first | exact BindsTo.of_eq rfl | exact binds_K (by k_in) rfl (by k_is) rfl rfl rfl | fail "k_enter: no rule for these arguments"); (case c5 => decide); (case kB => exact locs rfl); (case c2 => exact rfl); (case c3 => exact rfl); (case c4 => exact rfl); k_whole; intro g' L' h' FG' F' N' B' X' T'; (try dsimp only); (try k_lift B'); (try k_fold))
  dsimp only [b379, p379, s379] at *
  k_steps
  all_goals exact ret _ _ _ (by assumption) (by assumption)
theorem wc1_spec {prog : Program} {w : World} {p : Program} {loose : List Str} {mean : ExcName → Option Value} {mg mb : Str → Option Value}
  {dp un : Nat} {gd : Option (List Code)} {cn : Str} {cs : Scope} {a : Addr} {ccd : Value} {cl : List (Str × Addr)} {outer : List Env} {A₀ : Around} {base h₀ : Heap} {L : Addr} {m : Str → Option Value} {s : Shared} {Q E : Value → Shared → Prop}
  {x dx : Addr} {C K : Array UInt8} {t tk u : Tok} {rest : List (Addr × Obj)}
  (B : Below A₀ base outer h₀) (F : Fr h₀ L s.heap m) (X : (Kc w.params).In h₀) (N : News h₀ L s.heap ((x, instObj 126 dx) :: (dx, octObj w.params C t tk) :: rest)) (T : Top p loose mean mg mb h₀) (hk : cs.kind = .function)
  (hne : @Ne Nat x dx) (hoff : OwnOff rest [x, dx]) (hd : dp ≤ 390) (hu : un ≤ 380) (hz1 : C.size ≤ 100000) (hz2 : K.size ≤ 1000)
  (ret : ∀ h' tk' t', Fr h₀ L h' m → News h₀ L h' ((x, instObj 126 dx) :: (dx, octObj w.params (C ++ (be4 (#[] : Array UInt8).size).toArray ++ K ++ (#[] : Array UInt8) ++ (be4 (crcFold (List.map UInt8.toNat (#[] : Array UInt8).toList) (crcFold (List.map UInt8.toNat K.toList) 0))).toArray) t' tk) :: rest) → Q .none { s with heap := h', toks := tk' }) :
  wpAny (model prog w) (ktrTop dp un gd cn cs L a ccd cl outer) (call (.ref 379) [.ref x, .bytes K u]) Q E s := by
  refine wpAny_call ?_
  k_dflt (refine' code_def ?k1 ?k2 ?k3 ?k4 ?k5 ?kA ?kF ?kK ?k6 ?k7 ?k8 ?k9 ?kB ?_ ?c2 ?c3 ?c4 ?c5; (case kA => exact rfl); (case kF => exact rfl); (case kK => assumption); (case k1 => k_asm); (case k2 => k_asm); (case k3 => k_asm); (case k4 => k_asm); (case k5 => k_asm); (case k6 => k_is); (case k7 => k_is); (case k8 => ktr_room); (case k9 => first | exact BindsTo.of_eq rfl | exact binds_K (by k_in) rfl (by k_is) rfl rfl rfl | fail "k_enter: no rule for these arguments"); (case c5 => decide); (case kB => exact locs rfl); (case c2 => exact rfl); (case c3 => exact rfl); (case c4 => exact rfl); k_whole; intro g' L' h' FG' F' N' B' X' T'; (try dsimp only); (try k_lift B'); (try k_fold))
  dsimp only [b379, p379, s379] at *
  k_steps
  all_goals exact ret _ _ _ (by assumption) (by assumption)
end Mine
end
-- Loop
section
open PySem PySem.W PySem.W.X PyProof.Rows PySem.Calls PySem.Spec PyProof.V
set_option Elab.async false
set_option maxRecDepth 100000
set_option maxHeartbeats 4000000
namespace Mine
noncomputable abbrev tupObj (vs : List Value) (n : Nat) : Obj := { cls := .type "tuple", data := .seq vs.toArray n }
noncomputable abbrev lstObj (vs : List Value) (n : Nat) : Obj := { cls := .type "list", data := .seq vs.toArray n }
inductive All2 {α β : Type} (R : α → β → Prop) : List α → List β → Prop
  | nil : All2 R [] []
  | cons {a b l k} : R a b → All2 R l k → All2 R (a :: l) (b :: k)
theorem All2.length {α β : Type} {R : α → β → Prop} {l : List α} {k : List β} (h : All2 R l k) : l.length = k.length := by
  induction h with
  | nil => rfl
  | cons _ _ ih => simp [ih]
theorem All2.get {α β : Type} {R : α → β → Prop} {l : List α} {k : List β} (h : All2 R l k) : ∀ {i : Nat} {a : α}, l[i]? = some a → ∃ b, k[i]? = some b ∧ R a b := by
  induction h with
  | nil => intro i a e; simp at e
  | cons hr _ ih =>
    intro i a e
    cases i with
    | zero => simp at e; subst e; exact ⟨_, rfl, hr⟩
    | succ i => simp at e; simpa using ih e
theorem All2.mono {α β : Type} {R R' : α → β → Prop} {l : List α} {k : List β} (h : All2 R l k) (hm : ∀ a b, R a b → R' a b) : All2 R' l k := by
  induction h with
  | nil => exact .nil
  | cons hr _ ih => exact .cons (hm _ _ hr) ih
theorem All2.append {α β : Type} {R : α → β → Prop} {l l' : List α} {k k' : List β} (h : All2 R l k) (h' : All2 R l' k') : All2 R (l ++ l') (k ++ k') := by
  induction h with
  | nil => exact h'
  | cons hr _ ih => exact .cons hr ih
section
variable {prog : Program} {w : World} {A : Around} {E : Value → Shared → Prop} {s : Shared} {env : Env} {h₀ : Heap} {x : Str} {body : List Stmt} {Q : Flow → Shared → Prop}
/-- a loop over a list of the ledger -/
theorem iter_lst {l : Addr} {vs : List Value} {n : Nat} {m₀ : Str → Option Value} {news : List (Addr × Obj)} (J : Nat → (Str → Option Value) → List (Addr × Obj) → Prop)
    (hh : A.handled = none) (F : Fr h₀ env.locals s.heap m₀) (N : News h₀ env.locals s.heap ((l, lstObj vs n) :: news)) (hln : ∀ p ∈ news, @Ne Nat p.1 l) (hj : J 0 m₀ news)
    (turn : ∀ i v m₁ news₁ h tk own, vs[i]? = some v → news₁.map (·.1) = news.map (·.1) → OwnOff own (news.map (·.1)) → J i m₁ news₁ → Fr h₀ env.locals h (fun y => if y = x then some v else m₁ y) → News h₀ env.locals h (news₁ ++ own) →
      wpAny (model prog w) A (execs body env) (InvPostN h₀ env.locals (J (i + 1)) own (news.map (·.1)) { s with heap := h, toks := tk } Q) E { s with heap := h, toks := tk })
    (done : ∀ m₁ news₁ h tk, J vs.length m₁ news₁ → Fr h₀ env.locals h m₁ → News h₀ env.locals h news₁ → Q .next { s with heap := h, toks := tk }) :
    wpAny (model prog w) A (pyIter (.ref l)) (fun it s₂ => LoopAtV prog w A h₀ env x body Q E it s₂) E s := by
  have hl := N (l, lstObj vs n) (.head _)
  have hls : s.heap.IsList l vs.toArray := ⟨_, hl.1, rfl, n, rfl⟩
  have hne : l ≠ s.heap.objs.size := Nat.ne_of_lt (Heap.lt_size hl.1)
  refine wpAny_pyIter_list hls ?_
  have W := Walks.list (prog := prog) (w := w) hh s.heap.objs.size l hne vs.toArray
  have hlen : vs.toArray.size = vs.length := by simp
  rw [hlen] at W
  refine loop_invN J W ?_ ?_ ?_ ?_ ⟨⟨_, Heap.get?_push_size _ rfl, rfl, rfl⟩, hls.at fun o e => Heap.get?_push_of_some _ e⟩ (F.push _) (fun p hp => ⟨Heap.get?_push_of_some _ (N p (.tail _ hp)).1, (N p (.tail _ hp)).2⟩) hj ?_ ?_
  · intro hm
    rcases List.mem_cons.mp hm with e | hm
    · exact absurd F.ns.lt (e ▸ Nat.lt_irrefl _)
    · exact hl.2.1 (List.mem_singleton.mp hm).symm
  · intro b hb
    rw [List.mem_singleton.mp hb]
    exact next_is_new F
  · intro p hp hI
    exact absurd (Heap.lt_size (N p (.tail _ hp)).1) ((List.mem_singleton.mp hI) ▸ Nat.lt_irrefl _)
  · intro p hp hI
    rcases List.mem_cons.mp hI with e | hm
    · exact absurd (Heap.lt_size (N p (.tail _ hp)).1) (e ▸ Nat.lt_irrefl _)
    · exact hln p hp (List.mem_singleton.mp hm)
  · rintro i v m₁ nx h tk own _ hP hadr hoff hJ F₁ N₁
    exact turn i v m₁ nx h tk own (by simpa using hP) hadr hoff hJ F₁ N₁
  · intro m₁ nx h tk hJ F₁ N₁
    exact done m₁ nx h tk hJ F₁ N₁
/-- the same, where the body stores no other name -/
theorem iter_lst1 {l : Addr} {vs : List Value} {n : Nat} {m₀ : Str → Option Value} {news : List (Addr × Obj)} (J : Nat → List (Addr × Obj) → Prop)
    (hh : A.handled = none) (F : Fr h₀ env.locals s.heap m₀) (N : News h₀ env.locals s.heap ((l, lstObj vs n) :: news)) (hln : ∀ p ∈ news, @Ne Nat p.1 l) (hj : J 0 news)
    (turn : ∀ i v news₁ h tk own, vs[i]? = some v → news₁.map (·.1) = news.map (·.1) → OwnOff own (news.map (·.1)) → J i news₁ → Fr h₀ env.locals h (fun y => if y = x then some v else m₀ y) → News h₀ env.locals h (news₁ ++ own) →
      wpAny (model prog w) A (execs body env) (InvPostN h₀ env.locals (fun m' nx => J (i + 1) nx ∧ ∀ z, z ≠ x → m' z = m₀ z) own (news.map (·.1)) { s with heap := h, toks := tk } Q) E { s with heap := h, toks := tk })
    (done : ∀ (u : Str → Option Value) news₁ h tk, J vs.length news₁ → Fr h₀ env.locals h (fun y => if y = x then u y else m₀ y) → News h₀ env.locals h news₁ → Q .next { s with heap := h, toks := tk }) :
    wpAny (model prog w) A (pyIter (.ref l)) (fun it s₂ => LoopAtV prog w A h₀ env x body Q E it s₂) E s := by
  refine iter_lst (fun i m₁ nx => J i nx ∧ ∀ z, z ≠ x → m₁ z = m₀ z) hh F N hln ⟨hj, fun _ _ => rfl⟩ ?_ ?_
  · rintro i v m₁ nx h tk own hv ha ho ⟨hJ, hm⟩ F₁ N₁
    have e : (fun y => if y = x then some v else m₁ y) = fun y => if y = x then some v else m₀ y := by
      funext y
      by_cases h1 : y = x
      · simp [h1]
      · simp only [if_neg h1]; exact hm y h1
    rw [e] at F₁
    exact turn i v nx h tk own hv ha ho hJ F₁ N₁
  · rintro m₁ nx h tk ⟨hJ, hm⟩ F₁ N₁
    refine done m₁ nx h tk hJ ?_ N₁
    have e : (fun y => if y = x then m₁ y else m₀ y) = m₁ := by
      funext y
      by_cases h1 : y = x
      · simp [h1]
      · simp only [if_neg h1]; exact (hm y h1).symm
    rw [e]; exact F₁
end
theorem ownOff_app {a b : List (Addr × Obj)} {l : List Addr} (ha : OwnOff a l) (hb : OwnOff b l) : OwnOff (a ++ b) l := fun p hp q hq => (List.mem_append.mp hp).elim (fun h => ha p h q hq) fun h => hb p h q hq
theorem ownOff_sub {a : List (Addr × Obj)} {l l' : List Addr} (ha : OwnOff a l) (h : ∀ q ∈ l', q ∈ l) : OwnOff a l' := fun p hp q hq => ha p hp q (h q hq)
theorem ownOff_tail {a : List (Addr × Obj)} {p : Addr × Obj} {l : List Addr} (ha : OwnOff (p :: a) l) : OwnOff a l := fun q hq => ha q (.tail _ hq)
theorem news_sub {h₀ h : Heap} {L : Addr} {a b : List (Addr × Obj)} (N : News h₀ L h b) (hs : ∀ p ∈ a, p ∈ b) : News h₀ L h a := cb_drop N hs
end Mine
end
-- M3
section
open PySem PySem.W PySem.W.X PyProof.Rows PySem.Calls PySem.Spec
set_option Elab.async false
set_option maxRecDepth 100000
set_option maxHeartbeats 4000000
namespace Mine
theorem reset_M3 : True := by
  w_top off
  trivial
theorem warm3 : (PySem.Challenge.rw_ar0037_04 = PySem.Challenge.rw_ar0037_04) ∧ (∀ P, Kc P = Kc P) := by
  k_fill
  exact ⟨rfl, fun _ => rfl⟩

local macro_rules | `(tactic| walk_at "call ref") => `(tactic| (k_here; (with_reducible show wpAny _ _ (call (Value.ref 97) [Value.ref _, Value.bytes _ _]) _ _ _); k_dflt (refine' write_spec ?B ?F ?X ?N ?T ?K ?ne ?off ?hd ?hu ?sz ?_; (case B => k_asm); (case F => k_asm); (case X => k_asm); (case N => k_asm); (case T => k_asm); (case K => exact rfl); (case ne => assumption); (case off => assumption); (case hd => (dsimp only [ktrTop, Around.deeper]; omega)); (case hu => (dsimp only [ktrTop, Around.deeper]; omega)); (case sz => (simp only [Array.size_append, be4_len, List.size_toArray, List.length_nil, List.length_cons]; omega)); k_whole); intro h' k' t' F' N'))

local macro_rules | `(tactic| walk_at "call ref") => `(tactic| (k_here; (with_reducible show wpAny _ _ (call (Value.ref 379) [Value.ref _, Value.bytes _ _]) _ _ _); k_dflt (refine' wc1_spec ?B ?F ?X ?N ?T ?K ?ne ?off ?hd ?hu ?z1 ?z2 ?_; (case B => k_asm); (case F => k_asm); (case X => k_asm); (case N => k_asm); (case T => k_asm); (case K => exact rfl); (case ne => assumption); (case off => assumption); (case hd => (dsimp only [ktrTop, Around.deeper]; omega)); (case hu => (dsimp only [ktrTop, Around.deeper]; omega)); (case z1 => assumption); (case z2 => omega); k_whole); intro h' k' t' F' N'))
local macro_rules | `(tactic| walk_at "call ref") => `(tactic| (k_here; (with_reducible show wpAny _ _ (call (Value.ref 379) [Value.ref _, Value.bytes _ _, Value.bytes _ _]) _ _ _); k_dflt (refine' wc2_spec ?B ?F ?X ?N ?T ?K ?ne ?off ?hd ?hu ?z1 ?z2 ?z3 ?_; (case B => k_asm); (case F => k_asm); (case X => k_asm); (case N => k_asm); (case T => k_asm); (case K => exact rfl); (case ne => assumption); (case off => assumption); (case hd => (dsimp only [ktrTop, Around.deeper]; omega)); (case hu => (dsimp only [ktrTop, Around.deeper]; omega)); (case z1 => assumption); (case z2 => omega); (case z3 => omega); k_whole); intro h' k' t' F' N'))

/-- a kind, a content -/
noncomputable abbrev Chunk := Array UInt8 × Array UInt8
/-- the ledger bears a chunk at v: a pair, or a kind alone -/
noncomputable def ChunkAt (news : List (Addr × Obj)) (v : Value) (c : Chunk) : Prop :=
  (∃ a n u1 u2, v = .ref a ∧ (a, tupObj [.bytes c.1 u1, .bytes c.2 u2] n) ∈ news) ∨ (c.2 = #[] ∧ ∃ a n u1, v = .ref a ∧ (a, tupObj [.bytes c.1 u1] n) ∈ news)
noncomputable def chunkB (c : Chunk) : Array UInt8 := (be4 c.2.size).toArray ++ c.1 ++ c.2 ++ (be4 (crcFold (List.map UInt8.toNat c.2.toList) (crcFold (List.map UInt8.toNat c.1.toList) 0))).toArray
noncomputable def sigB : Array UInt8 := #[137, 80, 78, 71, 13, 10, 26, 10]
noncomputable def chunksB (ks : List Chunk) : Array UInt8 := (ks.map chunkB).foldl (· ++ ·) #[]
theorem foldl_app_acc (l : List (Array UInt8)) : ∀ (a : Array UInt8), l.foldl (· ++ ·) a = a ++ l.foldl (· ++ ·) #[] := by
  induction l with
  | nil => intro a; simp
  | cons b l ih => intro a; simp only [List.foldl_cons]; rw [ih, ih (#[] ++ b)]; simp [Array.append_assoc]
theorem chunksB_snoc (ks : List Chunk) (c : Chunk) : chunksB (ks ++ [c]) = chunksB ks ++ chunkB c := by
  simp [chunksB, List.foldl_append]
theorem chunksB_cons (ks : List Chunk) (c : Chunk) : chunksB (c :: ks) = chunkB c ++ chunksB ks := by
  show List.foldl (· ++ ·) (#[] ++ chunkB c) (ks.map chunkB) = _
  rw [foldl_app_acc]; simp [chunksB]
theorem chunksB_append (ks kt : List Chunk) : chunksB (ks ++ kt) = chunksB ks ++ chunksB kt := by
  induction ks with
  | nil => simp [chunksB]
  | cons c ks ih => simp only [List.cons_append, chunksB_cons, ih, Array.append_assoc]
theorem chunkB_size (c : Chunk) : (chunkB c).size = c.1.size + c.2.size + 8 := by
  simp only [chunkB, Array.size_append, List.size_toArray, be4_len]; omega
theorem chunksB_le (ks : List Chunk) (hc : ∀ c ∈ ks, c.1.size ≤ 100 ∧ c.2.size ≤ 100) : (chunksB ks).size ≤ 208 * ks.length := by
  induction ks with
  | nil => simp [chunksB]
  | cons c ks ih =>
    have h1 := ih fun c hm => hc c (.tail _ hm)
    have h2 := hc c (.head _)
    rw [chunksB_cons, Array.size_append, chunkB_size, List.length_cons]; omega
theorem turn_oct {A K D : Array UInt8} {C : Array UInt8} : C ++ A ++ (be4 D.size).toArray ++ K ++ D ++ (be4 (crcFold (List.map UInt8.toNat D.toList) (crcFold (List.map UInt8.toNat K.toList) 0))).toArray = C ++ (A ++ chunkB (K, D)) := by
  simp only [chunkB, Array.append_assoc]
theorem sub3 {α : Type} {a b : α} {r o : List α} : ∀ p ∈ a :: b :: r, p ∈ a :: b :: (r ++ o) := fun p hp => by
  simp only [List.mem_cons, List.mem_append] at hp ⊢
  rcases hp with h | h | h
  · exact .inl h
  · exact .inr (.inl h)
  · exact .inr (.inr (.inl h))
theorem own3 {α : Type} {a b : α} {r o : List α} : ∀ p ∈ o, p ∈ a :: b :: (r ++ o) := fun p hp => .tail _ (.tail _ (List.mem_append.mpr (.inr hp)))
theorem ownOff_hd {a : List (Addr × Obj)} {p : Addr × Obj} {l : List Addr} (h : OwnOff (p :: a) l) : ∀ q ∈ l, p.1 ≠ q := fun q hq => h p (.head _) q hq
theorem take_snoc {α : Type} {l : List α} {i : Nat} {c : α} (h : l[i]? = some c) : l.take (i + 1) = l.take i ++ [c] := by
  rw [List.take_add_one, h]; rfl
theorem wcs_spec {prog : Program} {w : World} {p : Program} {loose : List Str} {mean : ExcName → Option Value} {mg mb : Str → Option Value}
  {dp un : Nat} {gd : Option (List Code)} {cn : Str} {cs : Scope} {a : Addr} {ccd : Value} {cl : List (Str × Addr)} {outer : List Env} {A₀ : Around} {base h₀ : Heap} {L : Addr} {m : Str → Option Value} {s : Shared} {Q E : Value → Shared → Prop}
  {x dx l : Addr} {C : Array UInt8} {t tkO : Tok} {n : Nat} {vs : List Value} {ks : List Chunk} {rest : List (Addr × Obj)}
  (B : Below A₀ base outer h₀) (F : Fr h₀ L s.heap m) (X : (Kc w.params).In h₀) (N : News h₀ L s.heap ((x, instObj 126 dx) :: (dx, octObj w.params C t tkO) :: (l, lstObj vs n) :: rest)) (T : Top p loose mean mg mb h₀) (hk : cs.kind = .function)
  (hne : @Ne Nat x dx) (hoff : OwnOff ((l, lstObj vs n) :: rest) [x, dx]) (hl : ∀ p ∈ rest, @Ne Nat p.1 l) (hd : dp ≤ 380) (hu : un ≤ 360) (hz1 : C.size ≤ 10000) (hv : All2 (ChunkAt rest) vs ks) (hc : ∀ c ∈ ks, c.1.size ≤ 100 ∧ c.2.size ≤ 100) (hn : ks.length ≤ 100)
  (ret : ∀ h' tk' t', Fr h₀ L h' m → News h₀ L h' ((x, instObj 126 dx) :: (dx, octObj w.params (C ++ sigB ++ chunksB ks) t' tkO) :: rest) → Q .none { s with heap := h', toks := tk' }) :
  wpAny (model prog w) (ktrTop dp un gd cn cs L a ccd cl outer) (call (.ref 386) [.ref x, .ref l]) Q E s := by
  refine wpAny_call ?_
  k_dflt (refine' code_def ?k1 ?k2 ?k3 ?k4 ?k5 ?kA ?kF ?kK ?k6 ?k7 ?k8 ?k9 ?kB ?_ ?c2 ?c3 ?c4 ?c5; (case kA => exact rfl); (case kF => exact rfl); (case kK => assumption); (case k1 => k_asm); (case k2 => k_asm); (case k3 => k_asm); (case k4 => k_asm); (case k5 => k_asm); (case k6 => k_is); (case k7 => k_is); (case k8 => ktr_room); (case k9 => first | exact BindsTo.of_eq rfl | exact binds_K (by k_in) rfl (by k_is) rfl rfl rfl | fail "k_enter: no rule for these arguments"); (case c5 => decide); (case kB => exact locs rfl); (case c2 => exact rfl); (case c3 => exact rfl); (case c4 => exact rfl); k_whole; intro g' L' h' FG' F' N' B' X' T'; (try dsimp only); (try k_lift B'); (try k_fold))
  dsimp only [b386, p386, s386] at *
  k_steps
  (rename Fr _ _ _ _ => lF'); (with_unfolding_all refine' For_invVF lF' ?k1 ?k2 ?_); (case k1 => exact rfl); (case k2 => exact rfl)
  k_steps
  rename Fr _ _ _ _ => lF'
  rename News _ _ _ _ => lN'
  rename_i h9 k9 t9
  have hnl := ownOff_hd hoff
  refine iter_lst1 (n := n) (vs := vs) (news := (x, instObj 126 dx) :: (dx, octObj w.params (C ++ sigB) t9 tkO) :: rest) (fun i nx => ∃ t', nx = (x, instObj 126 dx) :: (dx, octObj w.params (C ++ sigB ++ chunksB (ks.take i)) t' tkO) :: rest) rfl lF' (news_sub lN' ?_) ?_ ⟨t9, by simp [chunksB]⟩ ?_ ?_
  · intro p hp
    simp only [List.mem_cons] at hp ⊢
    rcases hp with rfl | rfl | rfl | hp
    · exact .inr (.inr (.inl rfl))
    · exact .inl rfl
    · exact .inr (.inl rfl)
    · exact .inr (.inr (.inr hp))
  · intro p hp
    simp only [List.mem_cons] at hp
    rcases hp with rfl | rfl | hp
    · exact fun e => hnl x (by simp) e.symm
    · exact fun e => hnl dx (by simp) e.symm
    · exact hl p hp
  · rintro i v nx h tk1 own hvi hadr hown ⟨t1, rfl⟩ F1 N1
    clear lF' lN'
    obtain ⟨c, hci, hat⟩ := All2.get hv hvi
    have hsz := hc c (List.mem_of_getElem? hci)
    have ho : OwnOff (rest ++ own) [x, dx] := ownOff_app (ownOff_tail hoff) (ownOff_sub hown (by simp))
    have hil : i < ks.length := (List.getElem?_eq_some_iff.mp hci).1
    have hz2 : (C ++ sigB ++ chunksB (ks.take i)).size ≤ 100000 := by
      have h1 := chunksB_le (ks.take i) fun c hm => hc c (List.mem_of_mem_take hm)
      have h2 : (ks.take i).length ≤ ks.length := by rw [List.length_take]; omega
      have h3 : sigB.size = 8 := rfl
      simp only [Array.size_append]; omega
    have hend : chunksB (ks.take (i + 1)) = chunksB (ks.take i) ++ chunkB c := by rw [take_snoc hci, chunksB_snoc]
    obtain ⟨K, D⟩ := c
    dsimp only at hsz
    rcases hat with ⟨ca, cn', u1, u2, rfl, hin⟩ | ⟨hnil, ca, cn', u1, rfl, hin⟩
    · simp only [List.cons_append] at N1
      have hin' : (ca, tupObj [.bytes K u1, .bytes D u2] cn') ∈ (x, instObj 126 dx) :: (dx, octObj w.params (C ++ sigB ++ chunksB (ks.take i)) t1 tkO) :: (rest ++ own) := .tail _ (.tail _ (List.mem_append.mpr (.inl hin)))
      k_steps
      rename Fr _ _ _ _ => eF
      rename News _ _ _ _ => eN
      rw [turn_oct, ← hend] at eN
      exact InvEndN.intro eF eN ⟨⟨_, rfl⟩, fun z h1 => by simp [h1]⟩ rfl sub3 own3
    · simp only [List.cons_append] at N1
      dsimp only at hnil
      subst hnil
      have hin' : (ca, tupObj [.bytes K u1] cn') ∈ (x, instObj 126 dx) :: (dx, octObj w.params (C ++ sigB ++ chunksB (ks.take i)) t1 tkO) :: (rest ++ own) := .tail _ (.tail _ (List.mem_append.mpr (.inl hin)))
      k_steps
      rename Fr _ _ _ _ => eF
      rename News _ _ _ _ => eN
      rw [turn_oct, ← hend] at eN
      exact InvEndN.intro eF eN ⟨⟨_, rfl⟩, fun z h1 => by simp [h1]⟩ rfl sub3 own3
  · rintro u nx h tk1 ⟨t1, rfl⟩ F1 N1
    clear lF' lN'
    rw [hv.length, List.take_length] at N1
    k_steps
    exact ret _ _ _ (by assumption) (by assumption)
end Mine
end
-- M4
section
open PySem PySem.W PySem.W.X PyProof.Rows PySem.Calls PySem.Spec
set_option Elab.async false
set_option maxRecDepth 100000
set_option maxHeartbeats 4000000
namespace Mine
theorem reset_M4 : True := by
  w_top off
  trivial
theorem warm4 : (PySem.Challenge.rw_ar0037_04 = PySem.Challenge.rw_ar0037_04) ∧ (∀ P, Kc P = Kc P) := by
  k_fill
  exact ⟨rfl, fun _ => rfl⟩

theorem front_eq (b : Array UInt8) (k : Nat) : KBy.picked b none (some (k : Int)) = b.extract 0 k := by
  rw [KBc.picked_eq]
  have e : (some (k : Int)).elim b.size (clipAt b.size) = min k b.size := clipAt_nat b.size k
  rw [e]
  apply Array.toList_inj.mp
  rw [Array.toList_extract]
  simp [Option.elim, List.extract_eq_drop_take]
theorem back_eq (b : Array UInt8) (k : Nat) : KBy.picked b (some (k : Int)) none = b.extract k b.size := by
  rw [KBc.picked_eq]
  have e : (some (k : Int)).elim 0 (clipAt b.size) = min k b.size := clipAt_nat b.size k
  rw [e]
  apply Array.toList_inj.mp
  rw [Array.toList_extract]
  simp only [Option.elim, List.extract_eq_drop_take]
  by_cases h : k ≤ b.size
  · rw [Nat.min_eq_left h]
  · have h2 : b.size ≤ k := by omega
    rw [Nat.min_eq_right h2]; simp; omega
section
variable {prog : Program} {w : World} {A : Around} {E : Value → Shared → Prop} {s : Shared} {value slice : PySem.Expr} {b : Array UInt8} {t : Tok} {h₀ : Heap} {L : Addr} {m : PySem.Str → Option Value} {news : List (Addr × Obj)} {l u : Value} {lo hi : Option Int} {Q : Value → Shared → Prop}
theorem slice_P (hF : Fr h₀ L s.heap m) (hN : News h₀ L s.heap news) (hl : IsPart l lo) (hu : IsPart u hi) (hz : b.size ≤ 16777216)
    (h : ∀ h' t' k, Fr h₀ L h' m → News h₀ L h' news → Q (.bytes (KBy.picked b lo hi) t') { s with heap := h', toks := k })
    (hs : subscripted slice false (.bytes b t) (.ref s.heap.objs.size) = operate [.ref s.heap.objs.size, .bytes b t] (getItem (.bytes b t) (.ref s.heap.objs.size)) := by with_unfolding_all rfl)
    (ht : ∀ r, letTemporaryGo value (.bytes b t) r = pure () := by intro _; with_unfolding_all rfl) :
    wpAny (model prog w) A (subscriptTail value slice (.bytes b t) (.ref s.heap.objs.size)) Q E { s with heap := s.heap.push { cls := .type "slice", data := .fields #[l, u, .none] } } :=
  tail_of_ItemOn ⟨"bytes", _, FB.slot_bytes_getitem.lookup, typeIs_bytes _ _ _, getItem_meets (typeIs_bytes _ _ _) (by decide) FB.slot_bytes_getitem FB.entry_bytes_getitem (FB.args_bytes_getitem_2 _ _) (KBc.meets_slice2 b t _ hl hu)
    ⟨Heap.IsSliceOf.new _ _ _ _, Nat.le_trans (KBc.size_picked_le b lo hi) (by rw [sizeLine_eq]; exact hz), fun t' k => h _ _ _ (hF.push _) (News.pushKeep hN _)⟩⟩ hs ht
end
local macro_rules | `(tactic| walk_at "subscriptTail") => `(tactic| (k_here; (with_reducible show wpAny _ _ (subscriptTail _ (PySem.Expr.Slice none (some _) none _) (Value.bytes _ _) (Value.ref _)) _ _ _); (with_reducible rename Fr _ _ _ _ => F'); (with_reducible rename News _ _ _ _ => N'); (refine slice_P (s := ⟨_, _, _, _, _⟩) F' N' (by constructor) (by constructor) (by omega) ?_); intro _ _ _ _ _; rw [front_eq]))
local macro_rules | `(tactic| walk_at "subscriptTail") => `(tactic| (k_here; (with_reducible show wpAny _ _ (subscriptTail _ (PySem.Expr.Slice (some _) none none _) (Value.bytes _ _) (Value.ref _)) _ _ _); (with_reducible rename Fr _ _ _ _ => F'); (with_reducible rename News _ _ _ _ => N'); (refine slice_P (s := ⟨_, _, _, _, _⟩) F' N' (by constructor) (by constructor) (by omega) ?_); intro _ _ _ _ _; rw [back_eq]))
theorem getvalue_spec {prog : Program} {w : World} {p : Program} {loose : List Str} {mean : ExcName → Option Value} {mg mb : Str → Option Value}
  {dp un : Nat} {gd : Option (List Code)} {cn : Str} {cs : Scope} {a : Addr} {ccd : Value} {cl : List (Str × Addr)} {outer : List Env} {A₀ : Around} {base h₀ : Heap} {L : Addr} {m : Str → Option Value} {s : Shared} {Q E : Value → Shared → Prop}
  {x dx : Addr} {C : Array UInt8} {t tkO : Tok} {rest : List (Addr × Obj)}
  (B : Below A₀ base outer h₀) (F : Fr h₀ L s.heap m) (X : (Kc w.params).In h₀) (N : News h₀ L s.heap ((x, instObj 126 dx) :: (dx, octObj w.params C t tkO) :: rest)) (T : Top p loose mean mg mb h₀) (hk : cs.kind = .function)
  (hne : @Ne Nat x dx) (hoff : OwnOff rest [x, dx]) (hd : dp ≤ 400) (hu : un ≤ 400)
  (ret : ∀ h' tk', Fr h₀ L h' m → News h₀ L h' ((x, instObj 126 dx) :: (dx, octObj w.params C t tkO) :: rest) → Q (.bytes C t) { s with heap := h', toks := tk' }) :
  wpAny (model prog w) (ktrTop dp un gd cn cs L a ccd cl outer) (call (.ref 104) [.ref x]) Q E s := by
  refine wpAny_call ?_
  k_dflt (refine' code_def ?k1 ?k2 ?k3 ?k4 ?k5 ?kA ?kF ?kK ?k6 ?k7 ?k8 ?k9 ?kB ?_ ?c2 ?c3 ?c4 ?c5; (case kA => exact rfl); (case kF => exact rfl); (case kK => assumption); (case k1 => k_asm); (case k2 => k_asm); (case k3 => k_asm); (case k4 => k_asm); (case k5 => k_asm); (case k6 => k_is); (case k7 => k_is); (case k8 => ktr_room); (case k9 => first | exact BindsTo.of_eq rfl | exact binds_K (by k_in) rfl (by k_is) rfl rfl rfl | fail "k_enter: no rule for these arguments"); (case c5 => decide); (case kB => exact locs rfl); (case c2 => exact rfl); (case c3 => exact rfl); (case c4 => exact rfl); k_whole; intro g' L' h' FG' F' N' B' X' T'; (try dsimp only); (try k_lift B'); (try k_fold))
  dsimp only [b104, p104, s104] at *
  k_steps
  exact ret _ _ (by assumption) (by assumption)
theorem read_spec {prog : Program} {w : World} {p : Program} {loose : List Str} {mean : ExcName → Option Value} {mg mb : Str → Option Value}
  {dp un : Nat} {gd : Option (List Code)} {cn : Str} {cs : Scope} {a : Addr} {ccd : Value} {cl : List (Str × Addr)} {outer : List Env} {A₀ : Around} {base h₀ : Heap} {L : Addr} {m : Str → Option Value} {s : Shared} {Q E : Value → Shared → Prop}
  {x dx : Addr} {C : Array UInt8} {t tkO v : Tok} {k : Nat} {rest : List (Addr × Obj)}
  (B : Below A₀ base outer h₀) (F : Fr h₀ L s.heap m) (X : (Kc w.params).In h₀) (N : News h₀ L s.heap ((x, instObj 126 dx) :: (dx, octObj w.params C t tkO) :: rest)) (T : Top p loose mean mg mb h₀) (hk : cs.kind = .function)
  (hne : @Ne Nat x dx) (hoff : OwnOff rest [x, dx]) (hd : dp ≤ 400) (hu : un ≤ 400) (hz : C.size ≤ 100000)
  (ret : ∀ h' tk' u t', Fr h₀ L h' m → News h₀ L h' ((x, instObj 126 dx) :: (dx, octObj w.params (C.extract k C.size) t' tkO) :: rest) → Q (.bytes (C.extract 0 k) u) { s with heap := h', toks := tk' }) :
  wpAny (model prog w) (ktrTop dp un gd cn cs L a ccd cl outer) (call (.ref 90) [.ref x, .int k v]) Q E s := by
  refine wpAny_call ?_
  k_dflt (refine' code_def ?k1 ?k2 ?k3 ?k4 ?k5 ?kA ?kF ?kK ?k6 ?k7 ?k8 ?k9 ?kB ?_ ?c2 ?c3 ?c4 ?c5; (case kA => exact rfl); (case kF => exact rfl); (case kK => assumption); (case k1 => k_asm); (case k2 => k_asm); (case k3 => k_asm); (case k4 => k_asm); (case k5 => k_asm); (case k6 => k_is); (case k7 => k_is); (case k8 => ktr_room); (case k9 => first | exact BindsTo.of_eq rfl | exact binds_K (by k_in) rfl (by k_is) rfl rfl rfl | fail "k_enter: no rule for these arguments"); (case c5 => decide); (case kB => exact locs rfl); (case c2 => exact rfl); (case c3 => exact rfl); (case c4 => exact rfl); k_whole; intro g' L' h' FG' F' N' B' X' T'; (try dsimp only); (try k_lift B'); (try k_fold))
  dsimp only [b90, p90, s90] at *
  k_steps
  rename News _ _ _ _ => eN
  exact ret _ _ _ _ (by assumption) (news_sub eN fun _ h => .tail _ h)
end Mine
end
-- M5
section
open PySem PySem.W PySem.W.X PyProof.Rows PySem.Calls PySem.Spec
set_option Elab.async false
set_option maxRecDepth 100000
set_option maxHeartbeats 4000000
namespace Mine
theorem reset_M5 : True := by
  w_top off
  trivial
theorem warm5 : (PySem.Challenge.rw_ar0037_04 = PySem.Challenge.rw_ar0037_04) ∧ (∀ P, Kc P = Kc P) := by
  k_fill
  exact ⟨rfl, fun _ => rfl⟩
theorem units_under_make (A : Around) (args : Args) : (A.under (.builtin "type.__call__" args)).units = A.units + 1 := by first | rfl | simp [Around.under, Code.cUnits, Code.frames, Code.isFrame]

local macro_rules | `(tactic| walk_at "call type:bytes") => `(tactic| (k_here; (with_reducible show wpAny _ _ (call (Value.type "bytes") [Value.bytes _ _]) _ _ _); k_dflt (refine' bytes_K2 ?h ?d ?u ?F ?N ?_; (case h => exact rfl); (case d => (simp only [depth_deeper, depth_under_make]; omega)); (case u => (simp only [units_deeper, units_under_make]; omega)); (case F => k_asm); (case N => k_asm); k_whole); intro h' k' t' F' N'))
theorem new_stream {prog : Program} {w : World} {p : Program} {loose : List Str} {mean : ExcName → Option Value} {mg mb : Str → Option Value}
  {dp un : Nat} {gd : Option (List Code)} {cn : Str} {cs : Scope} {a : Addr} {ccd : Value} {cl : List (Str × Addr)} {outer : List Env} {A₀ : Around} {base h₀ : Heap} {L : Addr} {m : Str → Option Value} {s : Shared} {Q E : Value → Shared → Prop}
  {rest : List (Addr × Obj)} (B : Below A₀ base outer h₀) (F : Fr h₀ L s.heap m) (X : (Kc w.params).In h₀) (N : News h₀ L s.heap (rest)) (T : Top p loose mean mg mb h₀) (hk : cs.kind = .function) (hd : dp ≤ 390) (hu : un ≤ 380)
  (ret : ∀ x dx h' tk' t' tk, Fr h₀ L h' m → News h₀ L h' ((x, instObj 126 dx) :: (dx, octObj w.params #[] t' tk) :: rest) → (∀ p ∈ rest, p.1 < dx) → dx < x → Q (.ref x) { s with heap := h', toks := tk' }) :
  wpAny (model prog w) (ktrTop dp un gd cn cs L a ccd cl outer) (call (.ref 126) []) Q E s := by
  refine' call_cls ?k1 ?k2 ?k3 ?k4 ?k5 ?k6 ?_; (case k1 => k_asm); (case k2 => k_asm); (case k3 => k_asm); (case k4 => k_is); (case k5 => k_is); (case k6 => k_is); k_whole; intro x' d' h' F' N' l1 l2
  have l2' := ltN l2
  have hne : @Ne Nat x' d' := by omega
  have hoff : OwnOff rest [x', d'] := by
    intro p hp q hq
    have l1' := ltN (l1 p hp)
    simp only [List.mem_cons, List.not_mem_nil, or_false] at hq
    rcases hq with rfl | rfl
    · intro e; rw [e] at l1'; exact absurd (Nat.lt_trans l1' l2') (Nat.lt_irrefl _)
    · intro e; rw [e] at l1'; exact absurd l1' (Nat.lt_irrefl _)
  k_dflt (refine' code_def ?k1 ?k2 ?k3 ?k4 ?k5 ?kA ?kF ?kK ?k6 ?k7 ?k8 ?k9 ?kB ?_ ?c2 ?c3 ?c4 ?c5; (case kA => exact rfl); (case kF => exact rfl); (case kK => assumption); (case k1 => k_asm); (case k2 => k_asm); (case k3 => k_asm); (case k4 => k_asm); (case k5 => k_asm); (case k6 => k_is); (case k7 => k_is); (case k8 => ktr_room); (case k9 => first | exact BindsTo.of_eq rfl | exact binds_K (by k_in) rfl (by k_is) rfl rfl rfl | fail "k_enter: no rule for these arguments"); (case c5 => decide); (case kB => exact locs rfl); (case c2 => exact rfl); (case c3 => exact rfl); (case c4 => exact rfl); k_whole; intro g' L' h' FG' F' N' B' X' T'; (try dsimp only); (try k_lift B'); (try k_fold))
  dsimp only [b83, p83, s83] at *
  k_steps
  exact ret _ _ _ _ _ _ (by assumption) (by assumption) l1 l2
end Mine
end
-- M6
section
open PySem PySem.W PySem.W.X PyProof.Rows PySem.Calls PySem.Spec
set_option Elab.async false
set_option maxRecDepth 100000
set_option maxHeartbeats 4000000
namespace Mine
theorem reset_M6 : True := by
  w_top off
  trivial
theorem warm6 : (PySem.Challenge.rw_ar0037_04 = PySem.Challenge.rw_ar0037_04) ∧ (∀ P, Kc P = Kc P) := by
  k_fill
  exact ⟨rfl, fun _ => rfl⟩

section
variable {prog : Program} {w : World} {p : Program} {loose : List Str} {mean : ExcName → Option Value} {mg mb : Str → Option Value} {A₀ A : Around} {s : Shared} {base h₀ : Heap} {L : Addr} {m : Str → Option Value} {news : List (Addr × Obj)} {K : Frag}
/-- code_def, where the binder makes a dict for ** -/
theorem code_defK {env : Env} {outer : List Env} {R : Result → Shared → Prop} {name qual : Str} {params : Arguments} {body : List Stmt} {scope : Scope} {dV kV doc pm cdv ct oc : Value} {an od : Option Addr} {osl : Array (Option Value)} {f : Addr} {args : Args} {binds : List (Str × Value)}
    (B : Below A₀ base outer h₀) (F : Fr h₀ L s.heap m) (X₀ : K.In h₀) (N : News h₀ L s.heap news) (T : Top p loose mean mg mb h₀) (hA : A.frames = some (env :: outer)) (hf : env.frame = some L) (hke : env.scope.kind = .function)
    (ho : K.lookup f = some ⟨oc, od, .func (fnOf name qual params body scope dV kV doc pm an cdv ct), osl⟩) (hcd : codeIn K cdv qual = true) (hroom : A.depth < recursionLimit)
    (hbind : ∀ (M : Model) (A : Around) (E : Value → Shared → Prop) (Q : List (Str × Value) → Shared → Prop), Q binds { s with heap := s.heap.push (dictOf [] 0) } → wpAny M A (bindArgs (fnOf name qual params body scope dV kV doc pm an cdv ct) args) Q E s) (hloc : ∀ y ∈ binds, scope.names.lookup y.1 = some .local)
    (h : ∀ g L' h₁, Fr h₀ L g m → Fr g L' h₁ (fun y => binds.reverse.lookup y) → News g L' h₁ ((s.heap.objs.size, dictOf [] 0) :: news) → (s.heap.objs.size == sysModules) = false → (∀ p ∈ news, p.1 < s.heap.objs.size) → Below A base (env :: outer) g → K.In g → Top p loose mean mg mb g →
      wpAny (model prog w) (A.deeper (envOf qual scope L' f cdv)) (execs body (envOf qual scope L' f cdv))
        (fun fl s' => LeaveK h₀ L m g R (match fl with | .ret v => v | _ => .none) s')
        (fun e s' => wpAny (model prog w) (A.deeper (envOf qual scope L' f cdv)) (leaving (envOf qual scope L' f cdv) e) (fun _ s'' => R (.error e) s'') (fun e' s'' => R (.error e') s'') s')
        { s with heap := h₁, toks := s.toks + binds.length })
    (hco : scope.isCoroutine = false) (hgen : scope.isGenerator = false) (hk : scope.kind = .function)
    (hcell : ∀ x ∈ scope.names, x.2 ≠ .cell) : codeAny (model prog w) A (.call (.ref f) args) R s := by
  have F1 : Fr h₀ L (s.heap.push (dictOf [] 0)) m := F.push _
  have N1 : News h₀ L (s.heap.push (dictOf [] 0)) ((s.heap.objs.size, dictOf [] 0) :: news) := News.push F N _
  obtain ⟨FG, BG, st, lv⟩ := groundX (R := R) (s := { s with heap := s.heap.push (dictOf [] 0) }) B F1 N1 hA hf hke
  refine codeAny_call_function hroom ((X₀.keeps F.keep) _ _ ho) rfl hco hgen rfl (codeRec_of (X₀.keeps F.keep) hcd) (hbind _ _ _ _ ?_)
  refine wpAny_newFunctionEnv hcell hloc (fun h₁ hns hsb => ⟨(T.nolimit.keeps F1.keep).fresh _ hsb, codeAny_func ?_⟩) hk
  have hk₁ : ∀ b o, (s.heap.push (dictOf [] 0)).get? b = some o → h₁.get? b = some o := fun b o e => hsb.extBut b o (Nat.ne_of_lt (Heap.lt_size e)) (Heap.get?_push_of_some _ e)
  exact wpAny_mono (h _ _ h₁ FG ⟨hns, fun b o e => hk₁ b o (of_hideAll _ e), Nat.le_of_eq (hideAll_size _ _)⟩ (fun p hp => ⟨hk₁ _ _ (N1 p hp).1, Nat.ne_of_lt (Heap.lt_size (N1 p hp).1), hideAll_none _ (List.mem_map_of_mem hp)⟩) (F.notModules (modules_low T.nolimit)) (fun p hp => Heap.lt_size (N p hp).1) BG (X₀.keeps st) (T.keeps st)) (fun fl s' hl => lv _ _ hl) fun _ _ y => y
theorem empty_dict (s : Shared) : (dictOf [] 0).IsDictOf (strKind prog w) [] := by
  obtain ⟨o, ho, hd⟩ := Heap.dictOf_iff.mp (Heap.DictOf.new (knd := strKind prog w) s.heap)
  rw [Heap.get?_push_size _ rfl] at ho
  rw [← Option.some.inj ho] at hd
  exact hd
theorem off_new {rest : List (Addr × Obj)} {x d : Addr} (l1 : ∀ p ∈ rest, p.1 < d) (l2 : d < x) : OwnOff rest [x, d] := by
  intro p hp q hq
  have l1' := ltN (l1 p hp)
  have l2' := ltN l2
  simp only [List.mem_cons, List.not_mem_nil, or_false] at hq
  rcases hq with rfl | rfl
  · intro e; rw [e] at l1'; exact absurd (Nat.lt_trans l1' l2') (Nat.lt_irrefl _)
  · intro e; rw [e] at l1'; exact absurd l1' (Nat.lt_irrefl _)
theorem binds_kw {fd : FuncData} {args : Args} {b : List (Str × Value)} {y : Str} {T : Addr} {o : Obj} {items : Array Value} {n : Nat} {k : Option (Array Value) → Sem (List (Str × Value))} (X : K.In s.heap) (hd : fd.defaults = .ref T) (ho : K.lookup T = some o) (hs : o.data = .seq items n)
    (h₁ : bindArgs fd args = seqItems? fd.defaults >>= k) (h₂ : k (some items) = (alloc (dictOf [] 0) >>= fun d => pure (b ++ [(y, .ref d)]))) :
    ∀ (M : Model) (A : Around) (E : Value → Shared → Prop) (Q : List (Str × Value) → Shared → Prop), Q (b ++ [(y, .ref s.heap.objs.size)]) { s with heap := s.heap.push (dictOf [] 0) } → wpAny M A (bindArgs fd args) Q E s :=
  fun _ _ _ _ hq => by
    rw [h₁, hd]
    exact wpAny_bind (wpAny_seqItems (X _ _ ho) hs (h₂ ▸ wpAny_bind (wpAny_alloc (wpAny_pure hq))))
end

noncomputable abbrev rdObj (P : Params) (SG AT : Value) (x : Addr) (t1 t2 t3 t4 : Tok) : Obj := dictOf [⟨PyData.keyHash P (Str.ofString "signature"), .str (Str.ofString "signature") t1, SG⟩, ⟨PyData.keyHash P (Str.ofString "transparent"), .str (Str.ofString "transparent") t2, .none⟩, ⟨PyData.keyHash P (Str.ofString "atchunk"), .str (Str.ofString "atchunk") t3, AT⟩, ⟨PyData.keyHash P (Str.ofString "file"), .str (Str.ofString "file") t4, .ref x⟩] 4
theorem new_reader {prog : Program} {w : World} {p : Program} {loose : List Str} {mean : ExcName → Option Value} {mg mb : Str → Option Value}
  {dp un : Nat} {gd : Option (List Code)} {cn : Str} {cs : Scope} {a : Addr} {ccd : Value} {cl : List (Str × Addr)} {outer : List Env} {A₀ : Around} {base h₀ : Heap} {L : Addr} {m : Str → Option Value} {s : Shared} {Q E : Value → Shared → Prop}
  {x : Addr} {rest : List (Addr × Obj)} (B : Below A₀ base outer h₀) (F : Fr h₀ L s.heap m) (X : (Kc w.params).In h₀) (N : News h₀ L s.heap (rest)) (T : Top p loose mean mg mb h₀) (hk : cs.kind = .function) (hd : dp ≤ 390) (hu : un ≤ 380)
  (ret : ∀ r dr h' tk' t1 t2 t3 t4, Fr h₀ L h' m → News h₀ L h' ((r, instObj 651 dr) :: (dr, rdObj w.params .none .none x t1 t2 t3 t4) :: rest) → (∀ p ∈ rest, p.1 < dr) → dr < r → Q (.ref r) { s with heap := h', toks := tk' }) :
  wpAny (model prog w) (ktrTop dp un gd cn cs L a ccd cl outer) (call (.ref 651) [] [(Str.ofString "file", .ref x)]) Q E s := by
  refine' call_cls ?k1 ?k2 ?k3 ?k4 ?k5 ?k6 ?_; (case k1 => k_asm); (case k2 => k_asm); (case k3 => k_asm); (case k4 => k_is); (case k5 => k_is); (case k6 => k_is); k_whole; intro x' d' h' F' N' l1 l2
  have l2' := ltN l2
  have hne : @Ne Nat x' d' := by omega
  k_dflt (refine' code_defK ?k1 ?k2 ?k3 ?k4 ?k5 ?kA ?kF ?kK ?k6 ?k7 ?k8 ?k9 ?kB ?_ ?c2 ?c3 ?c4 ?c5; (case kA => exact rfl); (case kF => exact rfl); (case kK => assumption); (case k1 => k_asm); (case k2 => k_asm); (case k3 => k_asm); (case k4 => k_asm); (case k5 => k_asm); (case k6 => k_is); (case k7 => k_is); (case k8 => ktr_room); (case k9 => exact binds_kw (by k_in) rfl (by k_is) rfl rfl rfl); (case c5 => decide); (case kB => exact locs rfl); (case c2 => exact rfl); (case c3 => exact rfl); (case c4 => exact rfl); k_whole; intro g' L' h' FG' F' N' hsm' l3 B' X' T'; (try dsimp only); (try k_lift B'); (try k_fold))
  have l4 := ltN (l3 _ (.head _))
  have l5 := ltN (l3 _ (.tail _ (.head _)))
  have hoff : OwnOff rest [x', d'] := off_new l1 l2
  have hne1 := Nat.ne_of_gt l4
  have hne2 := Nat.ne_of_gt l5
  have hde : (dictOf [] 0).IsDictOf (strKind prog w) [] := empty_dict s
  dsimp only [b462, p462, s462] at *
  k_steps
  rename News _ _ _ _ => eN
  exact ret _ _ _ _ _ _ _ _ (by assumption) (news_sub eN fun _ h => .tail _ h) l1 l2
end Mine
end
-- M7
section
open PySem PySem.W PySem.W.X PyProof.Rows PySem.Calls PySem.Spec
set_option Elab.async false
set_option maxRecDepth 100000
set_option maxHeartbeats 4000000
namespace Mine
local macro_rules | `(tactic| walk_at "none at all") => `(tactic| fail)
theorem reset_M7 : True := by
  w_top off
  trivial
theorem warm7 : (PySem.Challenge.rw_ar0037_04 = PySem.Challenge.rw_ar0037_04) ∧ (∀ P, Kc P = Kc P) := by
  k_fill
  exact ⟨rfl, fun _ => rfl⟩

theorem off2 {r dr x dx : Addr} {a b : Obj} {rest : List (Addr × Obj)} (h1 : @Ne Nat r x) (h2 : @Ne Nat r dx) (h3 : @Ne Nat dr x) (h4 : @Ne Nat dr dx) (h : OwnOff rest [x, dx]) : OwnOff ((r, a) :: (dr, b) :: rest) [x, dx] := by
  intro p hp q hq
  simp only [List.mem_cons, List.not_mem_nil, or_false] at hp hq
  rcases hp with rfl | rfl | hp
  · rcases hq with rfl | rfl
    · exact h1
    · exact h2
  · rcases hq with rfl | rfl
    · exact h3
    · exact h4
  · exact h p hp q (by simpa using hq)
theorem pre_front (P R : Array UInt8) : (P ++ R).extract 0 P.size = P := by simp
theorem pre_back (P R : Array UInt8) : (P ++ R).extract P.size (P ++ R).size = R := by simp [Array.extract_append]
theorem read_pre {prog : Program} {w : World} {p : Program} {loose : List Str} {mean : ExcName → Option Value} {mg mb : Str → Option Value}
  {dp un : Nat} {gd : Option (List Code)} {cn : Str} {cs : Scope} {a : Addr} {ccd : Value} {cl : List (Str × Addr)} {outer : List Env} {A₀ : Around} {base h₀ : Heap} {L : Addr} {m : Str → Option Value} {s : Shared} {Q E : Value → Shared → Prop}
  {x dx : Addr} {P R : Array UInt8} {t tkO v : Tok} {k : Nat} {rest : List (Addr × Obj)}
  (B : Below A₀ base outer h₀) (F : Fr h₀ L s.heap m) (X : (Kc w.params).In h₀) (N : News h₀ L s.heap ((x, instObj 126 dx) :: (dx, octObj w.params (P ++ R) t tkO) :: rest)) (T : Top p loose mean mg mb h₀) (hk : cs.kind = .function)
  (hne : @Ne Nat x dx) (hoff : OwnOff rest [x, dx]) (hd : dp ≤ 400) (hu : un ≤ 400) (hz : (P ++ R).size ≤ 100000) (hp : P.size = k)
  (ret : ∀ h' tk' u t', Fr h₀ L h' m → News h₀ L h' ((x, instObj 126 dx) :: (dx, octObj w.params R t' tkO) :: rest) → Q (.bytes P u) { s with heap := h', toks := tk' }) :
  wpAny (model prog w) (ktrTop dp un gd cn cs L a ccd cl outer) (call (.ref 90) [.ref x, .int k v]) Q E s := by
  subst hp
  refine read_spec B F X N T hk hne hoff hd hu hz ?_
  intro h' tk' u t' F' N'
  rw [pre_back] at N'
  rw [pre_front]
  exact ret _ _ _ _ F' N'
theorem read_nil {prog : Program} {w : World} {p : Program} {loose : List Str} {mean : ExcName → Option Value} {mg mb : Str → Option Value}
  {dp un : Nat} {gd : Option (List Code)} {cn : Str} {cs : Scope} {a : Addr} {ccd : Value} {cl : List (Str × Addr)} {outer : List Env} {A₀ : Around} {base h₀ : Heap} {L : Addr} {m : Str → Option Value} {s : Shared} {Q E : Value → Shared → Prop}
  {x dx : Addr} {t tkO v : Tok} {k : Nat} {rest : List (Addr × Obj)}
  (B : Below A₀ base outer h₀) (F : Fr h₀ L s.heap m) (X : (Kc w.params).In h₀) (N : News h₀ L s.heap ((x, instObj 126 dx) :: (dx, octObj w.params #[] t tkO) :: rest)) (T : Top p loose mean mg mb h₀) (hk : cs.kind = .function)
  (hne : @Ne Nat x dx) (hoff : OwnOff rest [x, dx]) (hd : dp ≤ 400) (hu : un ≤ 400)
  (ret : ∀ h' tk' u t', Fr h₀ L h' m → News h₀ L h' ((x, instObj 126 dx) :: (dx, octObj w.params #[] t' tkO) :: rest) → Q (.bytes #[] u) { s with heap := h', toks := tk' }) :
  wpAny (model prog w) (ktrTop dp un gd cn cs L a ccd cl outer) (call (.ref 90) [.ref x, .int k v]) Q E s := by
  refine read_spec B F X N T hk hne hoff hd hu (by decide) ?_
  intro h' tk' u t' F' N'
  have e : ∀ i j, (#[] : Array UInt8).extract i j = #[] := by intro i j; simp
  rw [e] at N'
  rw [e]
  exact ret _ _ _ _ F' N'

local macro_rules | `(tactic| walk_at "call ref") => `(tactic| (k_here; (with_reducible show wpAny _ _ (call (Value.ref 90) [Value.ref _, Value.int _ _]) _ _ _); k_dflt (refine' read_pre ?B ?F ?X ?N ?T ?K ?ne ?off ?hd ?hu ?hz ?hp ?_; (case B => k_asm); (case F => k_asm); (case X => k_asm); (case N => k_asm); (case T => k_asm); (case K => exact rfl); (case ne => assumption); (case off => exact off2 (by assumption) (by assumption) (by assumption) (by assumption) (by assumption)); (case hd => (dsimp only [ktrTop, Around.deeper]; omega)); (case hu => (dsimp only [ktrTop, Around.deeper]; omega)); (case hz => assumption); (case hp => first | rfl | assumption); k_whole); intro h' k' u' t' F' N'))

local macro_rules | `(tactic| walk_at "call ref") => `(tactic| (k_here; (with_reducible show wpAny _ _ (call (Value.ref 90) [Value.ref _, Value.int _ _]) _ _ _); k_dflt (refine' read_nil ?B ?F ?X ?N ?T ?K ?ne ?off ?hd ?hu ?_; (case B => k_asm); (case F => k_asm); (case X => k_asm); (case N => k_asm); (case T => k_asm); (case K => exact rfl); (case ne => assumption); (case off => exact off2 (by assumption) (by assumption) (by assumption) (by assumption) (by assumption)); (case hd => (dsimp only [ktrTop, Around.deeper]; omega)); (case hu => (dsimp only [ktrTop, Around.deeper]; omega)); k_whole); intro h' k' u' t' F' N'))
local macro_rules | `(tactic| walk_at "truthy bytes") => `(tactic| (k_here; (with_reducible show wpAny _ _ (truthy (Value.bytes sigB _)) _ _ _); refine truthy_bytes (by decide) ?_; (show (if true = true then _ else _)); rw [if_pos rfl]))
theorem vs_done {prog : Program} {w : World} {p : Program} {loose : List Str} {mean : ExcName → Option Value} {mg mb : Str → Option Value}
  {dp un : Nat} {gd : Option (List Code)} {cn : Str} {cs : Scope} {a : Addr} {ccd : Value} {cl : List (Str × Addr)} {outer : List Env} {A₀ : Around} {base h₀ : Heap} {L : Addr} {m : Str → Option Value} {s : Shared} {Q E : Value → Shared → Prop}
  {x dx r dr : Addr} {t tkO t1 t2 t3 t4 : Tok} {rest : List (Addr × Obj)} {C : Array UInt8} {AT : Value} {us : Tok}
  (B : Below A₀ base outer h₀) (F : Fr h₀ L s.heap m) (X : (Kc w.params).In h₀) (N : News h₀ L s.heap ((x, instObj 126 dx) :: (dx, octObj w.params (C) t tkO) :: (r, instObj 651 dr) :: (dr, rdObj w.params (.bytes sigB us) AT x t1 t2 t3 t4) :: rest)) (T : Top p loose mean mg mb h₀) (hk : cs.kind = .function)
  (hne : @Ne Nat x dx) (hr : @Ne Nat r dr) (h1 : @Ne Nat r x) (h2 : @Ne Nat r dx) (h3 : @Ne Nat dr x) (h4 : @Ne Nat dr dx) (hoff : OwnOff rest [x, dx]) (hofr : OwnOff rest [r, dr]) (hd : dp ≤ 395) (hu : un ≤ 395)
  (ret : ∀ h' tk', Fr h₀ L h' m → News h₀ L h' ((x, instObj 126 dx) :: (dx, octObj w.params (C) t tkO) :: (r, instObj 651 dr) :: (dr, rdObj w.params (.bytes sigB us) AT x t1 t2 t3 t4) :: rest) → Q .none { s with heap := h', toks := tk' }) :
  wpAny (model prog w) (ktrTop dp un gd cn cs L a ccd cl outer) (call (.ref 518) [.ref r]) Q E s := by
  refine wpAny_call ?_
  k_dflt (refine' code_def ?k1 ?k2 ?k3 ?k4 ?k5 ?kA ?kF ?kK ?k6 ?k7 ?k8 ?k9 ?kB ?_ ?c2 ?c3 ?c4 ?c5; (case kA => exact rfl); (case kF => exact rfl); (case kK => assumption); (case k1 => k_asm); (case k2 => k_asm); (case k3 => k_asm); (case k4 => k_asm); (case k5 => k_asm); (case k6 => k_is); (case k7 => k_is); (case k8 => ktr_room); (case k9 => first | exact BindsTo.of_eq rfl | exact binds_K (by k_in) rfl (by k_is) rfl rfl rfl | fail "k_enter: no rule for these arguments"); (case c5 => decide); (case kB => exact locs rfl); (case c2 => exact rfl); (case c3 => exact rfl); (case c4 => exact rfl); k_whole; intro g' L' h' FG' F' N' B' X' T'; (try dsimp only); (try k_lift B'); (try k_fold))
  dsimp only [b518, p518, s518] at *
  k_steps
  exact ret _ _ (by assumption) (by assumption)
theorem vs_read {prog : Program} {w : World} {p : Program} {loose : List Str} {mean : ExcName → Option Value} {mg mb : Str → Option Value}
  {dp un : Nat} {gd : Option (List Code)} {cn : Str} {cs : Scope} {a : Addr} {ccd : Value} {cl : List (Str × Addr)} {outer : List Env} {A₀ : Around} {base h₀ : Heap} {L : Addr} {m : Str → Option Value} {s : Shared} {Q E : Value → Shared → Prop}
  {x dx r dr : Addr} {t tkO t1 t2 t3 t4 : Tok} {rest : List (Addr × Obj)} {R : Array UInt8} {AT : Value}
  (B : Below A₀ base outer h₀) (F : Fr h₀ L s.heap m) (X : (Kc w.params).In h₀) (N : News h₀ L s.heap ((x, instObj 126 dx) :: (dx, octObj w.params (sigB ++ R) t tkO) :: (r, instObj 651 dr) :: (dr, rdObj w.params .none AT x t1 t2 t3 t4) :: rest)) (T : Top p loose mean mg mb h₀) (hk : cs.kind = .function)
  (hne : @Ne Nat x dx) (hr : @Ne Nat r dr) (h1 : @Ne Nat r x) (h2 : @Ne Nat r dx) (h3 : @Ne Nat dr x) (h4 : @Ne Nat dr dx) (hoff : OwnOff rest [x, dx]) (hofr : OwnOff rest [r, dr]) (hd : dp ≤ 395) (hu : un ≤ 395) (hz : (sigB ++ R).size ≤ 100000)
  (ret : ∀ h' tk' t' us, Fr h₀ L h' m → News h₀ L h' ((x, instObj 126 dx) :: (dx, octObj w.params (R) t' tkO) :: (r, instObj 651 dr) :: (dr, rdObj w.params (.bytes sigB us) AT x t1 t2 t3 t4) :: rest) → Q .none { s with heap := h', toks := tk' }) :
  wpAny (model prog w) (ktrTop dp un gd cn cs L a ccd cl outer) (call (.ref 518) [.ref r]) Q E s := by
  refine wpAny_call ?_
  k_dflt (refine' code_def ?k1 ?k2 ?k3 ?k4 ?k5 ?kA ?kF ?kK ?k6 ?k7 ?k8 ?k9 ?kB ?_ ?c2 ?c3 ?c4 ?c5; (case kA => exact rfl); (case kF => exact rfl); (case kK => assumption); (case k1 => k_asm); (case k2 => k_asm); (case k3 => k_asm); (case k4 => k_asm); (case k5 => k_asm); (case k6 => k_is); (case k7 => k_is); (case k8 => ktr_room); (case k9 => first | exact BindsTo.of_eq rfl | exact binds_K (by k_in) rfl (by k_is) rfl rfl rfl | fail "k_enter: no rule for these arguments"); (case c5 => decide); (case kB => exact locs rfl); (case c2 => exact rfl); (case c3 => exact rfl); (case c4 => exact rfl); k_whole; intro g' L' h' FG' F' N' B' X' T'; (try dsimp only); (try k_lift B'); (try k_fold))
  dsimp only [b518, p518, s518] at *
  k_steps
  exact ret _ _ _ _ (by assumption) (by assumption)

theorem excCall_EOFError : ExcCallFacts "EOFError" "EOFError.__new__" "EOFError.__init__" where
  ends := by decide +kernel
  owner := by decide +kernel
  entry := entryFor_alias (id' := "BaseException.__new__") (by rw [fastTable_eq_tree]; kernel_rfl) (by first | rfl | decide +kernel) (by decide +kernel) (by rw [fastTable_eq_tree]; kernel_rfl)
  sub := by rw [isSubtype_type]; kernel_rfl
  notAttr := by rw [isSubtype_type]; kernel_rfl
  notName := by rw [isSubtype_type]; kernel_rfl
  made := by kernel_rfl
  notType := by decide +kernel
  canMake := by kernel_rfl
  noVector := fun args => by kernel_rfl
  mro := ⟨[.type "EOFError", .type "Exception", .type "BaseException", .type "object"], by rw [mroOf_type]; kernel_rfl, rfl⟩
  madeBy := by kernel_rfl
  quiet := by decide +kernel
  newOk := fun rest => by kernel_rfl
  init := .of (owner := "EOFError") (n := "__init__") (by rw [typeLookup_type, builtinLookup_eq_fast]; kernel_rfl) (by decide +kernel) (by decide +kernel) (by decide +kernel)
    (by first | exact .inl (by decide +kernel) | exact .inr (by decide +kernel)) (by rw [isSubtype_type]; kernel_rfl)
  initEntry := entryFor_alias (id' := "BaseException.__init__") (by rw [fastTable_eq_tree]; kernel_rfl) (by first | rfl | decide +kernel) (by decide +kernel) (by rw [fastTable_eq_tree]; kernel_rfl)
  initSplit := by kernel_rfl
  initKind := by kernel_rfl
  initRow := by kernel_rfl
  noStar := by decide +kernel
theorem excRaise_EOFError : ExcRaiseFacts "EOFError" where
  isExc := by rw [isSubtype_type]; kernel_rfl
  plainMeta := by kernel_rfl
local macro_rules | `(tactic| walk_at "exec Raise some none") => `(tactic| (k_here; (with_reducible show wpAny _ _ (exec (Stmt.Raise (some (Expr.Call (Expr.Name ("EOFError" : Str) _) (_ :: _) [] _)) none _) _) _ _ _); (with_unfolding_all refine Raise_madeB excCall_EOFError excRaise_EOFError rfl ?_); (with_reducible rename Fr _ _ _ _ => kF); (with_unfolding_all refine guard_global (by rfl) ?_); k_dflt (refine' name_B kF ?k1 ?k2 ?k3 ?k4 ?k5 ?_; (case k1 => k_asm); (case k2 => k_asm); (case k3 => k_is); (case k4 => boot_by_name); (case k5 => decide); k_whole); refine ⟨rfl, ?_⟩))
theorem vs_eof {prog : Program} {w : World} {p : Program} {loose : List Str} {mean : ExcName → Option Value} {mg mb : Str → Option Value}
  {dp un : Nat} {gd : Option (List Code)} {cn : Str} {cs : Scope} {a : Addr} {ccd : Value} {cl : List (Str × Addr)} {outer : List Env} {A₀ : Around} {base h₀ : Heap} {L : Addr} {m : Str → Option Value} {s : Shared} {Q E : Value → Shared → Prop}
  {x dx r dr : Addr} {t tkO t1 t2 t3 t4 : Tok} {rest : List (Addr × Obj)} {AT : Value}
  (B : Below A₀ base outer h₀) (F : Fr h₀ L s.heap m) (X : (Kc w.params).In h₀) (N : News h₀ L s.heap ((x, instObj 126 dx) :: (dx, octObj w.params (#[]) t tkO) :: (r, instObj 651 dr) :: (dr, rdObj w.params .none AT x t1 t2 t3 t4) :: rest)) (T : Top p loose mean mg mb h₀) (hk : cs.kind = .function)
  (hne : @Ne Nat x dx) (hr : @Ne Nat r dr) (h1 : @Ne Nat r x) (h2 : @Ne Nat r dx) (h3 : @Ne Nat dr x) (h4 : @Ne Nat dr dx) (hoff : OwnOff rest [x, dx]) (hofr : OwnOff rest [r, dr]) (hd : dp ≤ 395) (hu : un ≤ 395)
  (exc : ∀ e t vs news' h' tk' g, Fr h₀ L g m → g.UpToSlots h' → RaisedK base (envX cn cs L a ccd cl :: outer) e (.type "EOFError") t vs news' h' → E (.ref e) { s with heap := h', toks := tk' }) :
  wpAny (model prog w) (ktrTop dp un gd cn cs L a ccd cl outer) (call (.ref 518) [.ref r]) Q E s := by
  refine wpAny_call ?_
  k_dflt (refine' code_def ?k1 ?k2 ?k3 ?k4 ?k5 ?kA ?kF ?kK ?k6 ?k7 ?k8 ?k9 ?kB ?_ ?c2 ?c3 ?c4 ?c5; (case kA => exact rfl); (case kF => exact rfl); (case kK => assumption); (case k1 => k_asm); (case k2 => k_asm); (case k3 => k_asm); (case k4 => k_asm); (case k5 => k_asm); (case k6 => k_is); (case k7 => k_is); (case k8 => ktr_room); (case k9 => first | exact BindsTo.of_eq rfl | exact binds_K (by k_in) rfl (by k_is) rfl rfl rfl | fail "k_enter: no rule for these arguments"); (case c5 => decide); (case kB => exact locs rfl); (case c2 => exact rfl); (case c3 => exact rfl); (case c4 => exact rfl); k_whole; intro g' L' h' FG' F' N' B' X' T'; (try dsimp only); (try k_lift B'); (try k_fold))
  dsimp only [b518, p518, s518] at *
  k_steps
  exact exc _ _ _ _ _ _ _ FG' (by assumption) (by assumption)
end Mine
end
-- H0
section
open PySem PySem.W PySem.W.X PyProof.Rows PySem.Calls PySem.Spec
set_option Elab.async false
set_option maxRecDepth 100000
set_option maxHeartbeats 4000000
namespace Mine
/-- a built-in that may hold a bytearray while Python runs above it -/
noncomputable def holder : Code → Bool
  | .builtin id _ => Builtin.Bytes.decodersThatHold.contains id || ["bytearray.__contains__", "bytearray.__mod__", "bytearray.__rmod__", "_struct.pack_into.held", "bytearray.find.held"].contains id
  | _ => false
/-- no such built-in in a stack -/
noncomputable def Hm (l : List (Code × Pos)) : Prop := ∀ x ∈ l, holder x.1 = false
theorem Hm.cons {c : Code} {p : Pos} {l : List (Code × Pos)} (hc : holder c = false) (h : Hm l) : Hm ((c, p) :: l) := by
  intro x hx
  rcases List.mem_cons.mp hx with rfl | hx
  · exact hc
  · exact h x hx
theorem Hm.append {l l' : List (Code × Pos)} (h : Hm l) (h' : Hm l') : Hm (l ++ l') := fun x hx => (List.mem_append.mp hx).elim (h x) (h' x)
/-- wpAny over the stacks without a holder -/
noncomputable def wpH {α : Type} (M : Model) (A : Around) (t : Sem α) (Q : α → Shared → Prop) (E : Value → Shared → Prop) (s : Shared) : Prop :=
  ∀ Γ p, Γ.In A → holder Γ.code = false → Hm Γ.below → Sem.wp M Γ t (fun a _ s' => Q a s') (fun e _ s' => E e s') p s
noncomputable def codeH (M : Model) (A : Around) (c : Code) (R : Result → Shared → Prop) (s : Shared) : Prop :=
  ∀ Γ p, Γ.code = c → Γ.Below A → Hm Γ.below → wpCode M Γ R p s
section
variable {α β : Type} {M : Model} {A : Around} {E : Value → Shared → Prop} {s : Shared}
theorem wpH.of_any {t : Sem α} {Q : α → Shared → Prop} (h : wpAny M A t Q E s) : wpH M A t Q E s := fun Γ p hΓ _ _ => h Γ p hΓ
theorem codeH.of_any {c : Code} {R : Result → Shared → Prop} (h : codeAny M A c R s) : codeH M A c R s := fun Γ p hc hΓ _ => h Γ p hc hΓ
theorem wpH_pure {a : α} {Q : α → Shared → Prop} (h : Q a s) : wpH M A (pure a) Q E s := fun _ _ _ _ _ => h
theorem wpH_mono {t : Sem α} {Q Q' : α → Shared → Prop} {E' : Value → Shared → Prop} (h : wpH M A t Q E s) (hQ : ∀ a s, Q a s → Q' a s) (hE : ∀ e s, E e s → E' e s) : wpH M A t Q' E' s :=
  fun Γ p hΓ h1 h2 => Sem.wp_mono M Γ t (fun a _ s => hQ a s) (fun e _ s => hE e s) p s (h Γ p hΓ h1 h2)
theorem wpH_bind {m : Sem α} {f : α → Sem β} {Q : β → Shared → Prop} (h : wpH M A m (fun a s' => wpH M A (f a) Q E s') E s) : wpH M A (m >>= f) Q E s := fun Γ p hΓ h1 h2 => by
  rw [Sem.wp_bind']
  exact Sem.wp_mono M Γ m (fun a p' s' h' => h' Γ p' hΓ h1 h2) (fun _ _ _ h' => h') p s (h Γ p hΓ h1 h2)
/-- a leaf by the kit, then on -/
theorem wpH_first {m : Sem α} {f : α → Sem β} {Q : β → Shared → Prop} (h : wpAny M A m (fun a s' => wpH M A (f a) Q E s') E s) : wpH M A (m >>= f) Q E s := wpH_bind (.of_any h)
theorem wpH_tryCatch {m : Sem α} {k : Value → Sem α} {Q : α → Shared → Prop} (h : wpH M A m Q (fun e s' => wpH M A (k e) Q E s') s) : wpH M A (tryCatch m k) Q E s := fun Γ p hΓ h1 h2 => by
  rw [Sem.wp_tryCatch']
  exact Sem.wp_mono M Γ m (fun _ _ _ h' => h') (fun e p' s' h' => h' Γ p' hΓ h1 h2) p s (h Γ p hΓ h1 h2)
theorem wpH_onRaise {m : Sem α} {k : Value → Sem Unit} {Q : α → Shared → Prop} (h : wpH M A m Q (fun e s' => wpH M A (k e) (fun _ s'' => E e s'') E s') s) : wpH M A (m.onRaise k) Q E s := fun Γ p hΓ h1 h2 => by
  rw [Sem.wp_onRaise]
  exact Sem.wp_mono M Γ m (fun _ _ _ h' => h') (fun e p' s' h' => h' Γ p' hΓ h1 h2) p s (h Γ p hΓ h1 h2)
theorem wpH_holding {vs : List Value} {m : Sem α} {Q : α → Shared → Prop} (h : wpH M A m Q E s) : wpH M A (holding vs m) Q E s := fun Γ p hΓ h1 h2 => by
  rw [Sem.wp_holding]; exact h Γ p hΓ h1 h2
theorem wpH_rule {tag : String} {Q : Unit → Shared → Prop} (h : Q () s) : wpH M A (rule tag) Q E s := fun _ _ _ _ _ => h
theorem wpH_standAt {pos : Pos} {Q : Unit → Shared → Prop} (h : Q () s) : wpH M A (standAt pos) Q E s := fun _ _ _ _ _ => h
theorem wpH_point {Q : Unit → Shared → Prop} (h : Q () s) : wpH M A point Q E s := fun _ _ _ _ _ => h
/-- no holder: a look through the stack for one finds none -/
theorem wpH_stackAny {f : Code × Pos → Bool} {Q : Bool → Shared → Prop} (hf : ∀ c p, holder c = false → f (c, p) = false) (h : Q false s) : wpH M A (do return (← stack).any f) Q E s := fun Γ p hΓ h1 h2 => by
  show Q (((Γ.code, p) :: Γ.below).any f) s
  have e : ((Γ.code, p) :: Γ.below).any f = false := by
    rw [List.any_eq_false]
    rintro ⟨c, q⟩ hx
    rw [hf c q (Hm.cons h1 h2 (c, q) hx)]; exact Bool.false_ne_true
  rw [e]; exact h
theorem codeH_mono {c : Code} {R R' : Result → Shared → Prop} (h : codeH M A c R s) (hR : ∀ r s, R r s → R' r s) : codeH M A c R' s := fun Γ p hc hΓ h2 => wpCode_mono hR (h Γ p hc hΓ h2)
theorem wpH_runValue {c : Code} {Q : Value → Shared → Prop}
    (hc : codeH M A c (fun r s' => match r with | .ok (.ret v) => Q v s' | .ok _ => False | .error e => E e s') s) : wpH M A (runValue c) Q E s := fun Γ p hΓ h1 h2 => by
  rw [Sem.wp_runValue]; exact hc _ p rfl (hΓ.enter c none p (by intro x; cases x)) (Hm.cons h1 h2)
theorem wpH_run {c : Code} {h : Option Value} {Q : Flow → Shared → Prop}
    (hc : codeH M (A.mark h) c (fun r s' => match r with | .ok f => Q f s' | .error e => E e s') s) (hnb : h ≠ some byPass := by intro x; cases x) : wpH M A (run c h) Q E s := fun Γ p hΓ h1 h2 => by
  rw [Sem.wp_run]; exact hc _ p rfl (hΓ.enter c h p hnb) (Hm.cons h1 h2)
theorem wpH_call {f : Value} {pos : List Value} {kw : List (Str × Value)} {Q : Value → Shared → Prop}
    (hc : codeH M A (.call f ⟨pos, kw⟩) (fun r s' => match r with | .ok (.ret v) => Q v s' | .ok _ => False | .error e => E e s') s) : wpH M A (call f pos kw) Q E s := wpH_runValue hc
theorem codeH_of_tree {c : Code} {R : Result → Shared → Prop} (hh : holder c = false)
    (h : wpH M (A.under c) (M.den c) (fun fin s' => match fin with | .done f => R (.ok f) s' | .again c' => c'.quiet = true ∧ codeH M A c' R s') (fun e s' => R (.error e) s') s) : codeH M A c R s := fun Γ p hc hΓ h2 => by
  rw [wpCode_iff_wp, hc]
  refine Sem.wp_mono M Γ _ (fun fin p' s' h' => ?_) (fun _ _ _ h' => h') p s (h Γ p (hc ▸ hΓ.in) (hc ▸ hh) h2)
  cases fin with
  | done f => exact h'
  | again c' => exact ⟨h'.1, h'.2 (Γ.goto c') p' rfl (hΓ.goto c') h2⟩
end
section
variable {prog : Program} {w : World} {A : Around} {s : Shared} {R : Result → Shared → Prop}
theorem codeH_func {body : List Stmt} {env : Env}
    (h : wpH (model prog w) (A.deeper env) (execs body env) (fun f s' => R (.ok (.ret (match f with | .ret v => v | _ => .none))) s')
      (fun e s' => wpAny (model prog w) (A.deeper env) (leaving env e) (fun _ s'' => R (.error e) s'') (fun e' s'' => R (.error e') s'') s') s) : codeH (model prog w) A (.func body env) R s := by
  refine codeH_of_tree rfl ?_
  show wpH _ (A.deeper env) (do point; match ← (execs body env).onRaise (leaving env) with | .ret v => ret v | _ => ret .none) _ _ s
  refine wpH_bind (wpH_point (wpH_bind (wpH_onRaise (wpH_mono h (fun f s' h' => ?_) fun _ _ h' => .of_any h'))))
  cases f <;> exact wpH_pure h'
theorem codeH_builtin {id : String} {args : Args} {b : Builtin} (hb : entryFor table id = some b) (hh : holder (.builtin id args) = false)
    (h : wpH (model prog w) (A.under (.builtin id args)) (b args)
      (fun fin s' => match fin with | .done f => R (.ok f) s' | .again c' => c'.quiet = true ∧ codeH (model prog w) A c' R s') (fun e s' => R (.error e) s') s) :
    codeH (model prog w) A (.builtin id args) R s := by
  refine codeH_of_tree hh ?_
  show wpH _ _ (match entryFor table id with | some b => b args | none => unsupported ((withoutEnding? id "#data").getD id)) _ _ s
  rw [hb]; exact h
end
end Mine
end
-- H1
section
open PySem PySem.W PySem.W.X PyProof.Rows PySem.Calls PySem.Spec
set_option Elab.async false
set_option maxRecDepth 100000
set_option maxHeartbeats 4000000
namespace Mine
section
variable {prog : Program} {w : World} {A : Around} {s : Shared} {R : Result → Shared → Prop}
theorem codeH_call_function {a : Addr} {args : Args} {o : Obj} {fd : FuncData} {body : List Stmt} (hroom : A.depth < recursionLimit) (ho : s.heap.get? a = some o)
    (hd' : o.data = .func fd) (hco : fd.scope.isCoroutine = false) (hgen : fd.scope.isGenerator = false) (hbody : fd.body = .stmts body) (hcd : s.heap.CodeRec fd.code fd.qualname)
    (h : wpAny (model prog w) A.in1 (bindArgs fd args) (fun binds s₁ =>
      wpAny (model prog w) A.in1 (newFunctionEnv fd.scope fd.globals fd.closure binds (fd.qualname ++ ".<locals>.") (some a) fd.code none fd.builtins)
        (fun env s₂ => s₂.heap.NoLimit ∧ codeH (model prog w) A (.func body env) R s₂) (fun e s' => R (.error e) s') s₁) (fun e s' => R (.error e) s') s) :
    codeH (model prog w) A (.call (.ref a) args) R s := by
  refine codeH_of_tree rfl ?_
  show wpH _ A.in1 (callAny (.ref a) args) _ _ s
  refine .of_any ?_
  simp only [callAny]
  refine wpAny_bind (wpAny_load ho ?_)
  obtain ⟨c, oc, vs, tq, hc, hoc, hdc, hq⟩ := hcd
  simp only [hd', callFunction, hco, hgen, hbody, hc]
  rw [hc] at h
  refine wpAny_bind (m := field (.ref c) 1) (wpAny_field hoc hdc hq (wpAny_bind (wpAny_pure ?_)))
  exact wpAny_bind (wpAny_mono h (fun binds s₁ h₁ => wpAny_bind (wpAny_mono h₁ (fun env s₂ h₂ => wpAny_bind (wpAny_enterFrame h₂.1 hroom
    (wpAny_pure (And.intro rfl h₂.2)))) fun _ _ h' => h')) fun _ _ h' => h')
variable {p : Program} {loose : List Str} {mean : ExcName → Option Value} {mg mb : Str → Option Value} {A₀ : Around} {base h₀ : Heap} {L : Addr} {m : Str → Option Value} {news : List (Addr × Obj)} {K : Frag}
/-- code_def, over the stacks without a holder -/
theorem code_defH {env : Env} {outer : List Env} {name qual : Str} {params : Arguments} {body : List Stmt} {scope : Scope} {dV kV doc pm cdv ct oc : Value} {an od : Option Addr} {osl : Array (Option Value)} {f : Addr} {args : Args} {binds : List (Str × Value)}
    (B : Below A₀ base outer h₀) (F : Fr h₀ L s.heap m) (X₀ : K.In h₀) (N : News h₀ L s.heap news) (T : Top p loose mean mg mb h₀) (hA : A.frames = some (env :: outer)) (hf : env.frame = some L) (hke : env.scope.kind = .function)
    (ho : K.lookup f = some ⟨oc, od, .func (fnOf name qual params body scope dV kV doc pm an cdv ct), osl⟩) (hcd : codeIn K cdv qual = true) (hroom : A.depth < recursionLimit)
    (hbind : BindsTo s (fnOf name qual params body scope dV kV doc pm an cdv ct) args binds) (hloc : ∀ y ∈ binds, scope.names.lookup y.1 = some .local)
    (h : ∀ g L' h₁, Fr h₀ L g m → Fr g L' h₁ (fun y => binds.reverse.lookup y) → News g L' h₁ news → Below A base (env :: outer) g → K.In g → Top p loose mean mg mb g →
      wpH (model prog w) (A.deeper (envOf qual scope L' f cdv)) (execs body (envOf qual scope L' f cdv))
        (fun fl s' => LeaveK h₀ L m g R (match fl with | .ret v => v | _ => .none) s')
        (fun e s' => wpAny (model prog w) (A.deeper (envOf qual scope L' f cdv)) (leaving (envOf qual scope L' f cdv) e) (fun _ s'' => R (.error e) s'') (fun e' s'' => R (.error e') s'') s')
        { s with heap := h₁, toks := s.toks + binds.length })
    (hco : scope.isCoroutine = false) (hgen : scope.isGenerator = false) (hk : scope.kind = .function)
    (hcell : ∀ x ∈ scope.names, x.2 ≠ .cell) : codeH (model prog w) A (.call (.ref f) args) R s := by
  obtain ⟨FG, BG, st, lv⟩ := groundX (R := R) B F N hA hf hke
  refine codeH_call_function hroom ((X₀.keeps F.keep) _ _ ho) rfl hco hgen rfl (codeRec_of (X₀.keeps F.keep) hcd) (hbind _ _ _ _ ?_)
  refine wpAny_newFunctionEnv hcell hloc (fun h₁ hns hsb => ⟨(T.nolimit.keeps F.keep).fresh _ hsb, codeH_func ?_⟩) hk
  have hk₁ : ∀ b o, s.heap.get? b = some o → h₁.get? b = some o := fun b o e => hsb.extBut b o (Nat.ne_of_lt (Heap.lt_size e)) (Heap.get?_push_of_some _ e)
  exact wpH_mono (h _ _ h₁ FG ⟨hns, fun b o e => hk₁ b o (of_hideAll _ e), Nat.le_of_eq (hideAll_size _ _)⟩ (fun p hp => ⟨hk₁ _ _ (N p hp).1, Nat.ne_of_lt (Heap.lt_size (N p hp).1), hideAll_none _ (List.mem_map_of_mem hp)⟩) BG (X₀.keeps st) (T.keeps st)) (fun fl s' hl => lv _ _ hl) fun _ _ y => y
end
end Mine
end
-- H2
section
open PySem PySem.W PySem.W.X PyProof.Rows PySem.Calls PySem.Spec
set_option Elab.async false
set_option maxRecDepth 100000
set_option maxHeartbeats 4000000
namespace Mine
section
variable {M : Model} {A : Around} {E : Value → Shared → Prop} {s : Shared} {env : Env}
theorem execsH_cons {st : Stmt} {rest : List Stmt} {Q : Flow → Shared → Prop} (h : wpH M A (exec st env) (fun f s' => match f with | .next => wpH M A (execs rest env) Q E s' | f => Q f s') E s) : wpH M A (execs (st :: rest) env) Q E s := by
  rw [execs_cons]
  refine wpH_bind (wpH_mono h (fun f s' h' => ?_) fun _ _ x => x)
  cases f <;> first | exact h' | exact wpH_pure h'
/-- a statement by the kit's walk, then on -/
theorem execsH_next {st : Stmt} {rest : List Stmt} {Q : Flow → Shared → Prop} (h : wpAny M A (exec st env) (fun f s' => match f with | .next => wpH M A (execs rest env) Q E s' | f => Q f s') E s) : wpH M A (execs (st :: rest) env) Q E s := execsH_cons (.of_any h)
theorem execsH_nil {Q : Flow → Shared → Prop} (h : Q .next s) : wpH M A (execs [] env) Q E s := wpH_pure h
theorem AssignH {targets : List Expr} {value : Expr} {pos : Pos} {Q : Flow → Shared → Prop}
    (h : wpH M A (eval value env) (fun v s₁ => wpAny M A (assignAll v ((assignEach targets env).map (·.2))) (fun _ => Q .next) E s₁) E s)
    (hs : swapsWithSole targets value pos.line env = pure false := by rfl) (hw : swappedStores targets value env = pure none := by rfl) :
    wpH M A (exec (.Assign targets value pos) env) Q E s := by
  rw [exec_Assign_arm]
  refine wpH_bind (wpH_standAt ?_)
  rw [hs]
  refine wpH_bind (wpH_pure ?_)
  rw [if_neg (by decide)]
  refine wpH_bind (wpH_mono h (fun v s₁ h₁ => ?_) fun _ _ x => x)
  rw [hw]
  refine wpH_bind (wpH_pure ?_)
  show wpH M A (do assignAll v ((assignEach targets env).map (·.2)); pure .next) Q E s₁
  exact wpH_bind (.of_any (wpAny_mono h₁ (fun _ _ x => wpH_pure x) fun _ _ x => x))
theorem IfH {test : Expr} {body orelse : List Stmt} {pos : Pos} {Q : Flow → Shared → Prop}
    (h : wpAny M A (isTrue test env (eval test env)) (fun b s₁ => if b = true then wpH M A (execs body env) Q E s₁ else wpH M A (execs orelse env) Q E s₁) E s) : wpH M A (exec (.If test body orelse pos) env) Q E s := by
  rw [arm_exec_If]
  refine wpH_bind (wpH_standAt (wpH_bind (.of_any (wpAny_mono h (fun b s₁ h₁ => ?_) fun _ _ x => x))))
  cases b
  · exact h₁
  · exact h₁
theorem splicedH_cons {x : Sem Value} {rest : List (Bool × Sem Value)} {Q : List Value → Shared → Prop} (h : wpH M A x (fun v s₁ => wpH M A (spliced rest) (fun vs s₂ => Q (v :: vs) s₂) E s₁) E s) : wpH M A (spliced ((false, x) :: rest)) Q E s := by
  rw [spliced]
  refine wpH_bind (wpH_mono h (fun v s₁ h₁ => ?_) fun _ _ x => x)
  show wpH M A (pure [v] >>= fun here => _) Q E s₁
  exact wpH_bind (wpH_pure (wpH_bind (wpH_holding (wpH_mono h₁ (fun vs s₂ h₂ => wpH_pure h₂) fun _ _ x => x))))
theorem splicedH_nil {Q : List Value → Shared → Prop} (h : Q [] s) : wpH M A (spliced []) Q E s := wpH_pure h
theorem wpH_operating {vs : List Value} {m : Sem Value} {Q : Value → Shared → Prop} (h : wpH M A m Q E s) : wpH M A (operate vs m) Q E s :=
  fun Γ p hΓ h1 h2 => by rw [Sem.wp_operate]; exact h Γ p hΓ h1 h2
theorem wpH_keep {α : Type} {vs : List Value} {m : Sem α} {Q : α → Shared → Prop} (h : wpH M A m Q E s) : wpH M A (m.keep vs) Q E s :=
  fun Γ p hΓ h1 h2 => by rw [Sem.wp_keep]; exact h Γ p hΓ h1 h2
theorem evalArgsH {f : Value} {args : List (Bool × Sem Value)} {Q : Args → Shared → Prop} (hst : args.any (·.1) = false) (h : wpH M A (spliced args) (fun vs s' => Q ⟨vs, []⟩ s') E s) : wpH M A (evalArgs f true args []) Q E s := by
  unfold evalArgs
  cases args with
  | nil =>
    show wpH M A (spliced [] >>= _) Q E s
    refine wpH_bind (wpH_mono h (fun vs s' h' => ?_) fun _ _ x => x)
    refine wpH_holding ?_
    exact wpH_bind (wpH_pure (wpH_bind (wpH_pure (wpH_pure h'))))
  | cons x r =>
    obtain ⟨b, x⟩ := x
    cases b with
    | true => simp at hst
    | false =>
      show wpH M A (spliced ((false, x) :: r) >>= _) Q E s
      refine wpH_bind (wpH_mono h (fun vs s' h' => ?_) fun _ _ x => x)
      refine wpH_holding ?_
      exact wpH_bind (wpH_pure (wpH_bind (wpH_pure (wpH_pure h'))))
/-- a call without keywords and stars -/
theorem callWithH {pos : Pos} {f : Value} {first : List Value} {args : List (Bool × Sem Value)} {Q : Value → Shared → Prop} (hst : args.any (·.1) = false) (hla : args.length ≤ 30)
    (h : wpH M A (spliced args) (fun vs s₁ => (∃ k, (k = Keeper.frame ∨ k = Keeper.machine ∨ k = Keeper.boundFrame) ∧ Looks M s₁.heap (keeperOf f) k) ∧ wpH M A (call f (first ++ vs)) Q E s₁) E s) : wpH M A (callWith pos f first args []) Q E s := by
  unfold callWith
  refine wpH_bind (wpH_holding (evalArgsH hst (wpH_mono h (fun vs s₁ h₁ => wpH_bind (wpH_standAt ?_)) fun _ _ x => x)))
  obtain ⟨⟨k, hk, L⟩, h₂⟩ := h₁
  dsimp only
  rw [hst]
  refine wpH_bind (.of_any (L.here ?_))
  have hn : ¬ (args.length + 2 * ([] : List (Option Str × Sem Value)).length > 30) := by simp; omega
  have core : wpH M A (call f (first ++ vs)) (fun a s' => wpH M A (holding [a] point >>= fun _ => pure a) Q E s') E s₁ := wpH_mono h₂ (fun a s' ha => wpH_bind (wpH_holding (wpH_point (wpH_pure ha)))) fun _ _ x => x
  rcases hk with rfl | rfl | rfl
  · show wpH M A (if args.length + 2 * ([] : List (Option Str × Sem Value)).length > 30 then _ else callMarked plainCall f (first ++ vs) [] >>= fun a => holding [a] point >>= fun _ => pure a) Q E s₁
    rw [if_neg hn]
    unfold callMarked
    exact wpH_bind (wpH_keep core)
  · exact wpH_bind core
  · show wpH M A (if args.length + 2 * ([] : List (Option Str × Sem Value)).length > 30 then _ else callMarked callOfAMethodObject f (first ++ vs) [] >>= fun a => holding [a] point >>= fun _ => pure a) Q E s₁
    rw [if_neg hn]
    unfold callMarked
    exact wpH_bind (wpH_keep core)
/-- o.name(args): the object and the method by the kit -/
theorem methodCallH {o : Expr} {name : Str} {apos pos : Pos} {args : List Expr} {pl : Sem Bool} {Q : Value → Shared → Prop}
    (h : wpAny M A (eval o env) (fun ov s₁ => wpAny M A (getMethod ov name pl) (fun fx s₂ => wpH M A (callWith pos fx.1 fx.2 (backTo pos (starEach args env)) []) Q E s₂) E s₁) E s)
    (he : eval (.Call (.Attribute o name apos) args [] pos) env = (do
      let ov ← eval o env
      standAt apos.atName
      let (f, first) ← holding [ov] (getMethod ov name pl)
      callWith pos f first (backTo pos (starEach args env)) []) := by rfl) :
    wpH M A (eval (.Call (.Attribute o name apos) args [] pos) env) Q E s := by
  rw [he]
  refine wpH_bind (.of_any (wpAny_mono h (fun ov s₁ h₁ => wpH_bind (wpH_standAt (wpH_bind (wpH_holding (.of_any (wpAny_mono h₁ (fun fx s₂ h₂ => ?_) fun _ _ x => x)))))) fun _ _ x => x))
  exact h₂
theorem callNameH {id : Str} {p pos : Pos} {args : List Expr} {Q : Value → Shared → Prop}
    (h : wpAny M A (eval (.Name id p) env) (fun f s₁ => wpH M A (callWith pos f [] (backTo pos (starEach args env)) []) Q E s₁) E s) :
    wpH M A (eval (.Call (.Name id p) args [] pos) env) Q E s := by
  rw [arm_eval_Call_Name']
  exact wpH_bind (.of_any h)
end
end Mine
end
-- H4
section
open PySem PySem.W PySem.W.X PyProof.Rows PySem.Calls PySem.Spec
set_option Elab.async false
set_option maxRecDepth 100000
set_option maxHeartbeats 4000000
namespace Mine
theorem ba_slot : Slot "bytearray" "__init__" "bytearray.__init__" :=
  .of (owner := "bytearray") (n := "__init__") (by rw [typeLookup_type, builtinLookup_eq_fast]; kernel_rfl) (by decide +kernel) (by decide +kernel) (by decide +kernel)
    (by first | exact .inl (by decide +kernel) | exact .inr (by decide +kernel)) (by rw [isSubtype_type]; kernel_rfl)
theorem ba_mro : mroOf (.type "bytearray") = pure [.type "bytearray", .type "object"] := by rw [mroOf_type]; kernel_rfl
theorem ba_sub : isSubtype (.type "bytearray") (.type "bytearray") = pure true := PySem.F.sub_bytearray_bytearray
theorem ba_lnew : typeLookup (.type "bytearray") "__new__" = pure (some (.builtin "bytearray.__new__")) := by rw [typeLookup_type, builtinLookup_eq_fast]; kernel_rfl
theorem ba_made : Bind.madeBy (.type "bytearray") = pure (some "bytearray.__new__") := by kernel_rfl
theorem ba_check (a : Value) : checkTypeCall "bytearray" ⟨[a], []⟩ = pure () := by kernel_rfl
theorem ba_init_plain : plainId "bytearray.__init__" = true := by decide +kernel
theorem ba_init_entry : entryFor table "bytearray.__init__" = some Builtin.«bytearray.__init__» := entryFor_of_fast (by kernel_rfl)
theorem ba_release : typeLookup (.type "bytearray") "__release_buffer__" = pure (some (.builtin "bytearray.__release_buffer__")) := by rw [typeLookup_type, builtinLookup_eq_fast]; kernel_rfl
theorem by_release : typeLookup (.type "bytes") "__release_buffer__" = pure none := KBy.look_release
theorem by_buffer : typeLookup (.type "bytes") "__buffer__" = pure (some (.builtin "bytes.__buffer__")) := KBy.look_buffer
theorem by_index : typeLookup (.type "bytes") "__index__" = pure none := by rw [typeLookup_type, builtinLookup_eq_fast]; kernel_rfl
theorem by_sub : isSubtype (.type "bytes") (.type "bytes") = pure true := PySem.F.sub_bytes_bytes
open Builtin Builtin.Bytes in
theorem ba_bind (a : Value) : bindOptional "bytearray.__init__" "bytearray" ["source", "encoding", "errors"] [a] [] = pure [some a, none, none] := by kernel_rfl
theorem hold_init (args : Args) : holder (.builtin "bytearray.__init__" args) = false := by
  show (Builtin.Bytes.decodersThatHold.contains "bytearray.__init__" || ["bytearray.__contains__", "bytearray.__mod__", "bytearray.__rmod__", "_struct.pack_into.held", "bytearray.find.held"].contains "bytearray.__init__") = false
  decide +kernel
theorem hold_type (args : Args) : holder (.builtin "type.__call__" args) = false := by
  show (Builtin.Bytes.decodersThatHold.contains "type.__call__" || ["bytearray.__contains__", "bytearray.__mod__", "bytearray.__rmod__", "_struct.pack_into.held", "bytearray.find.held"].contains "type.__call__") = false
  decide +kernel
section
variable {prog : Program} {w : World} {A : Around} {E : Value → Shared → Prop} {s : Shared}
set_option hygiene false in
local macro_rules | `(tactic| x_close) => `(tactic| (exact hret _ _ (by assumption)))
theorem ba_new {b : Array UInt8} {t : Tok} {Q : Value → Shared → Prop} (hret : ∀ x h', Mem s.heap h' [] [(x, { cls := .type "bytearray", data := .bytearray #[] })] → Q (.ref x) { s with heap := h' }) :
    wpAny (model prog w) bigA (call (.builtin "bytearray.__new__") [.type "bytearray", .bytes b t]) Q E s := by
  x_run
theorem ifH_no {α : Type} {M : Model} {c : Bool} {a b : Sem α} {Q : α → Shared → Prop} (hc : c = false) (h : wpH M A b Q E s) : wpH M A (if c = true then a else b) Q E s := by
  subst hc; exact h
theorem ifH_yes {α : Type} {M : Model} {c : Bool} {a b : Sem α} {Q : α → Shared → Prop} (hc : c = true) (h : wpH M A a Q E s) : wpH M A (if c = true then a else b) Q E s := by
  subst hc; exact h
theorem eqH {α β : Type} {M : Model} {t : Sem α} {a : α} {f : α → Sem β} {Q : β → Shared → Prop} (e : t = pure a) (h : wpH M A (f a) Q E s) : wpH M A (t >>= f) Q E s := by
  rw [e]; exact wpH_bind (wpH_pure h)
theorem exportedH {v : Value} {Q : Bool → Shared → Prop} (h : Q false s) : wpH (model prog w) A (Builtin.Bytes.exported v) Q E s := by
  unfold Builtin.Bytes.exported
  refine wpH_stackAny (fun c p hc => ?_) h
  unfold holder at hc
  split <;> simp_all
noncomputable abbrev baObj (b : Array UInt8) : Obj := { cls := .type "bytearray", data := .bytearray b }
open Builtin Builtin.Bytes in
theorem writeBA {x : Addr} {b c : Array UInt8} {h : Heap} {g : Array GenState} {dr : Drawn} {tk : Nat} {os : OsState} {Q : Unit → Shared → Prop} (ho : h.get? x = some (baObj b)) (hz : c.size ≤ sizeLine)
    (hQ : ∀ h', Heap.SameBut x h h' → h'.get? x = some (baObj c) → Q () ⟨h', g, dr, tk, os⟩) : wpAny (model prog w) A (write (.ref x) fun _ => c) Q E ⟨h, g, dr, tk, os⟩ := by
  show wpAny _ _ (updateBytearray x fun _ => c) _ _ _
  unfold updateBytearray
  refine wpAny_bind (wpAny_load ho ?_)
  show wpAny _ _ (update x (Obj.mapBytearray fun _ => c) >>= fun _ => lookBehind x) _ _ _
  refine wpAny_bind (wpAny_update ho ?_)
  have h2 : (h.update x (Obj.mapBytearray fun _ => c)).get? x = some (baObj c) := Heap.get?_update_self (Obj.mapBytearray fun _ => c) ho rfl
  refine wpAny_lookBehind h2 ?_ (hQ _ (Heap.SameBut.update ..) h2)
  show (if c.size > sizeLine then some "bytearray:memory" else none) = none
  rw [if_neg (by omega)]
open Builtin Builtin.Bytes in
theorem ba_initH {x : Addr} {b : Array UInt8} {t : Tok} {R : Result → Shared → Prop} (ho : s.heap.get? x = some (baObj #[])) (hz : b.size ≤ sizeLine)
    (hR : ∀ h', Heap.SameBut x s.heap h' → h'.get? x = some (baObj b) → R (.ok (.ret .none)) { s with heap := h' }) :
    codeH (model prog w) A (.builtin "bytearray.__init__" ⟨[.ref x, .bytes b t], []⟩) R s := by
  obtain ⟨hp, g, d, tk, os⟩ := s
  have hT : (⟨hp, g, d, tk, os⟩ : Shared).TypeIs (.ref x) "bytearray" := ⟨_, ho, rfl⟩
  refine codeH_builtin ba_init_entry (hold_init _) ?_
  rw [Around.under_plainId ba_init_plain _]
  unfold «bytearray.__init__»
  dsimp only
  have e1 : "bytearray.__release_buffer__".dropRight ("__release_buffer__".length + 1) = "bytearray" := by decide +kernel
  refine wpH_bind (.of_any ?_)
  unfold ownRelease
  refine wpAny_bind ?_
  unfold slotIsOwn
  refine wpAny_bind (wpAny_specialOf hT ba_release ?_)
  dsimp only
  refine bm_if_false (by decide +kernel) ?_
  rw [e1]
  refine wpAny_isInstance hT (U := "bytearray") ba_sub ?_
  refine wpAny_pure ?_
  refine ifH_no rfl ?_
  refine eqH (ba_bind _) ?_
  dsimp only
  refine eqH (a := ()) rfl ?_
  refine eqH (a := ()) rfl ?_
  refine wpH_bind ?_
  show wpH _ _ (exported (.ref x) >>= _) _ _ _
  refine wpH_bind (exportedH ?_)
  refine .of_any ?_
  show wpAny _ _ (exportsOf (.ref x) >>= _) _ _ _
  refine wpAny_bind ?_
  unfold exportsOf
  refine wpAny_bind (wpAny_load ho ?_)
  refine wpAny_pure (wpAny_pure ?_)
  refine ifH_no rfl ?_
  refine .of_any ?_
  refine wpAny_bind (writeBA ho (by decide) fun h₁ sb₁ ho₁ => ?_)
  have hTb : (⟨h₁, g, d, tk, os⟩ : Shared).TypeIs (.bytes b t) "bytes" := rfl
  refine wpAny_bind (wpAny_of_eq (a := none) rfl ?_)
  refine bm_if_false rfl ?_
  refine wpAny_bind (wpAny_of_eq (a := ()) rfl ?_)
  refine wpAny_bind (wpAny_specialOf hTb by_index ?_)
  refine bm_if_false rfl ?_
  refine wpAny_bind ?_
  unfold buffer?
  refine wpAny_bind (wpAny_specialOf hTb by_buffer ?_)
  dsimp only
  refine wpAny_bind ?_
  unfold slotIsOwn
  refine wpAny_bind (wpAny_specialOf hTb by_buffer ?_)
  dsimp only
  have e2 : "bytes.__buffer__".dropRight ("__buffer__".length + 1) = "bytes" := by decide +kernel
  refine bm_if_false (by decide +kernel) ?_
  rw [e2]
  refine wpAny_isInstance hTb (U := "bytes") by_sub ?_
  refine bm_if_false rfl ?_
  refine wpAny_bind (wpAny_specialOf hTb by_buffer ?_)
  show wpAny _ _ (ownRelease (.bytes b t) >>= _) _ _ _
  refine wpAny_bind ?_
  unfold ownRelease
  refine wpAny_bind ?_
  unfold slotIsOwn
  refine wpAny_bind (wpAny_specialOf hTb by_release ?_)
  refine wpAny_pure (wpAny_pure ?_)
  refine bm_if_false rfl ?_
  refine wpAny_bind (wpAny_of_eq (a := b) rfl (wpAny_pure ?_))
  refine wpAny_bind (wpAny_rule ?_)
  refine wpAny_bind (writeBA ho₁ hz fun h₂ sb₂ ho₂ => ?_)
  exact wpAny_pure (hR h₂ (sb₁.trans sb₂) ho₂)
/-- bytearray(b) -/
theorem bytearrayH {b : Array UInt8} {t : Tok} {Q : Value → Shared → Prop} (hh : A.handled = none) (hd : A.depth ≤ 800) (hu : A.units ≤ 800) (hz : b.size ≤ sizeLine)
    (h : ∀ x h', (∀ a o, s.heap.get? a = some o → h'.get? a = some o) → h'.get? x = some (baObj b) → s.heap.get? x = none → Q (.ref x) { s with heap := h' }) : wpH (model prog w) A (call (.type "bytearray") [.bytes b t]) Q E s := by
  refine wpH_call (codeH_of_tree rfl ?_)
  show wpH _ _ (callAny (.type "bytearray") _) _ _ _
  refine wpH_pure ⟨Code.quiet_builtin _ (by decide +kernel), codeH_builtin PySem.F.entry_type_call (hold_type _) ?_⟩
  rw [Around.under_plain (weight_type_call_type "bytearray" [.bytes b t] []) rfl]
  unfold Builtin.«type.__call__»
  dsimp only
  refine ifH_no (by decide) ?_
  refine ifH_no (by decide +kernel) ?_
  refine eqH (ba_check _) ?_
  refine eqH ba_mro ?_
  refine ifH_no rfl ?_
  refine eqH ba_made ?_
  dsimp only
  refine eqH (a := .builtin "bytearray.__new__") rfl ?_
  refine wpH_bind (wpH_holding (.of_any ?_))
  refine at_any (by exact hh) (by show A.depth ≤ 900; omega) (by show A.units + 1 ≤ 900; omega) (ba_new fun x h₁ D => ?_)
  have hx : h₁.get? x = some (baObj #[]) := (D.nw _ (.head _)).1
  have hx0 : s.heap.get? x = none := (D.nw _ (.head _)).2
  have hT : Shared.TypeIs { s with heap := h₁ } (.ref x) "bytearray" := ⟨_, hx, rfl⟩
  refine wpH_bind (.of_any (wpAny_isInstance hT ba_sub ?_))
  refine ifH_no rfl ?_
  refine wpH_bind (wpH_holding ?_)
  unfold callSpecial?
  refine wpH_bind (.of_any (wpAny_specialOf hT ba_slot.lookup ?_))
  dsimp only
  refine wpH_holding ?_
  refine eqH (ba_slot.bind (.ref x)) ?_
  dsimp only
  refine wpH_bind (wpH_call (codeH_of_tree rfl ?_))
  show wpH _ A.in1.in1 (do checkBuiltinCall "bytearray.__init__" ⟨[.ref x, .bytes b t], []⟩; again (.builtin "bytearray.__init__" ⟨[.ref x, .bytes b t], []⟩)) _ _ _
  refine wpH_bind (.of_any (ba_slot.check _ _ _ _ _ _ _ _ hT (by unfold argsOk; kernel_rfl) ?_))
  refine wpH_pure ⟨plainId_quiet ba_init_plain _, ba_initH hx hz fun h₂ sb hx₂ => ?_⟩
  refine wpH_pure (ifH_no rfl (wpH_pure ?_))
  refine h x h₂ (fun a o e => ?_) hx₂ hx0
  have h3 := mem_old D a o e
  exact (sb.2 a (fun q => by rw [q] at e; rw [hx0] at e; cases e)).trans h3
end
end Mine
end
-- S0
section
open PySem PySem.W PySem.W.X PyProof.Rows PySem.Calls PySem.Spec
set_option Elab.async false
set_option maxRecDepth 100000
set_option maxHeartbeats 4000000
namespace Mine
open Builtin
theorem bi_next : Slot "bytearray_iterator" "__next__" "bytearray_iterator.__next__" :=
  .of (owner := "bytearray_iterator") (n := "__next__") (by rw [typeLookup_type, builtinLookup_eq_fast]; kernel_rfl) (by decide +kernel) (by decide +kernel) (by decide +kernel)
    (by first | exact .inl (by decide +kernel) | exact .inr (by decide +kernel)) (by rw [isSubtype_type]; kernel_rfl)
theorem bi_self : Slot "bytearray_iterator" "__iter__" "bytearray_iterator.__iter__" :=
  .of (owner := "bytearray_iterator") (n := "__iter__") (by rw [typeLookup_type, builtinLookup_eq_fast]; kernel_rfl) (by decide +kernel) (by decide +kernel) (by decide +kernel)
    (by first | exact .inl (by decide +kernel) | exact .inr (by decide +kernel)) (by rw [isSubtype_type]; kernel_rfl)
theorem ba_iter : Slot "bytearray" "__iter__" "bytearray.__iter__" :=
  .of (owner := "bytearray") (n := "__iter__") (by rw [typeLookup_type, builtinLookup_eq_fast]; kernel_rfl) (by decide +kernel) (by decide +kernel) (by decide +kernel)
    (by first | exact .inl (by decide +kernel) | exact .inr (by decide +kernel)) (by rw [isSubtype_type]; kernel_rfl)
theorem bi_next_entry : entryFor table "bytearray_iterator.__next__" = some Builtin.«bytearray_iterator.__next__» := entryFor_of_fast (by kernel_rfl)
theorem ba_iter_entry : entryFor table "bytearray.__iter__" = some Builtin.«bytearray.__iter__» := entryFor_of_fast (by kernel_rfl)
theorem bi_self_entry : entryFor table "bytearray_iterator.__iter__" = some Builtin.«dict_keyiterator.__iter__» := entryFor_alias (id' := "dict_keyiterator.__iter__") (by kernel_rfl) rfl (by decide +kernel) (by kernel_rfl)
theorem bi_next_args (a : Value) : argsOk "bytearray_iterator.__next__" ⟨[a], []⟩ := by unfold argsOk; kernel_rfl
theorem bi_self_args (a : Value) : argsOk "bytearray_iterator.__iter__" ⟨[a], []⟩ := by unfold argsOk; kernel_rfl
theorem ba_iter_args (a : Value) : argsOk "bytearray.__iter__" ⟨[a], []⟩ := by unfold argsOk; kernel_rfl
noncomputable def IsBaIter (h : Heap) (it x : Addr) (b : Array UInt8) (i : Nat) : Prop := (∃ o, h.get? it = some o ∧ o.cls = .type "bytearray_iterator" ∧ o.data = .fields #[.ref x, .int i 0]) ∧ h.get? x = some (baObj b)
section
variable {prog : Program} {w : World} {A : Around} {E : Value → Shared → Prop} {s : Shared} {b : Array UInt8} {x it : Addr} {i : Nat}
theorem baIter_is (y : IsBaIter s.heap it x b i) : s.TypeIs (.ref it) "bytearray_iterator" := let ⟨⟨o, ho, hc, _⟩, _⟩ := y; ⟨o, ho, hc⟩
theorem pyIter_ba {Q : Value → Shared → Prop} (hx : s.heap.get? x = some (baObj b)) (hQ : Q (.ref s.heap.objs.size) { s with heap := s.heap.push { cls := .type "bytearray_iterator", data := .fields #[.ref x, .int 0 0] } }) : wpAny (model prog w) A (pyIter (.ref x)) Q E s := by
  have hT : s.TypeIs (.ref x) "bytearray" := ⟨_, hx, rfl⟩
  refine wpAny_pyIter_slot hT ba_iter (wpAny_call_entry ba_iter hT ba_iter_entry ?_ (ba_iter_args _))
  show wpAny _ _ (do ret (← newFields "bytearray_iterator" [.ref x, rawInt 0])) _ _ s
  exact wpAny_bind (wpAny_newObj_type (wpAny_pure ⟨_, rfl, "bytearray_iterator", _, ⟨_, Heap.get?_push_size _ rfl, rfl⟩, bi_next.lookup, hQ⟩))
theorem baIter_self {Q : Value → Shared → Prop} (hit : IsBaIter s.heap it x b i) (h : Q (.ref it) s) : wpAny (model prog w) A (pyIter (.ref it)) Q E s := by
  refine wpAny_pyIter_slot (baIter_is hit) bi_self (wpAny_call_entry bi_self (baIter_is hit) bi_self_entry ?_ (bi_self_args _))
  show wpAny _ _ (ret (.ref it)) _ _ s
  exact wpAny_pure ⟨_, rfl, "bytearray_iterator", _, baIter_is hit, bi_next.lookup, h⟩
theorem baIter_item {c : UInt8} {Q : Option Value → Shared → Prop} (hne : x ≠ it) (hit : IsBaIter s.heap it x b i) (hx : b[i]? = some c)
    (hQ : ∀ h', IsBaIter h' it x b (i + 1) → Heap.SameBut it s.heap h' → Q (some (.int (c.toNat : Int) s.toks)) { s with heap := h', toks := s.toks + 1 }) : wpAny (model prog w) A (pyNext (.ref it)) Q E s := by
  obtain ⟨⟨o, ho, hc, hd⟩, hb⟩ := id hit
  unfold pyNext
  refine wpAny_bind (wpAny_attempt (wpAny_callSpecial?_slot (name := PySem.Str.ofString "__next__") (baIter_is hit) bi_next
    (wpAny_call_entry bi_next (baIter_is hit) bi_next_entry ?_ (bi_next_args _))))
  show wpAny _ _ (field (.ref it) 0 >>= _) _ _ s
  refine wpAny_bind (wpAny_field ho hd (x := .ref x) rfl ?_)
  show wpAny _ _ (load x >>= _) _ _ s
  refine wpAny_bind (wpAny_load hb ?_)
  show wpAny _ _ (field (.ref it) 1 >>= _) _ _ s
  refine wpAny_bind (wpAny_field ho hd (x := .int i 0) rfl ?_)
  simp only [Int.toNat_natCast, hx]
  refine wpAny_bind (wpAny_setField ho hd (by simp) (wpAny_bind (wpAny_mkInt (wpAny_pure ⟨_, rfl, wpAny_pure (hQ _ ?_ (Heap.SameBut.update ..))⟩))))
  exact ⟨⟨_, Heap.get?_update_self _ ho (Obj.isFreed_of_fields (Obj.data_mapFields hd _)), (Obj.cls_mapFields ..).trans hc, by
    rw [Obj.data_mapFields hd]; simp [rawInt]⟩, (Heap.get?_update_other _ _ (Ne.symm hne)).trans hb⟩
theorem baIter_end {Q : Option Value → Shared → Prop} (hh : A.handled = none) (hit : IsBaIter s.heap it x b i) (hx : b[i]? = none)
    (hQ : ∀ h', Heap.ExtBut it s.heap h' → Q none { s with heap := h' }) : wpAny (model prog w) A (pyNext (.ref it)) Q E s := by
  obtain ⟨⟨o, ho, hc, hd⟩, hb⟩ := id hit
  unfold pyNext
  refine wpAny_bind (wpAny_attempt (wpAny_callSpecial?_slot (name := PySem.Str.ofString "__next__") (baIter_is hit) bi_next
    (wpAny_call_entry bi_next (baIter_is hit) bi_next_entry ?_ (bi_next_args _))))
  show wpAny _ _ (field (.ref it) 0 >>= _) _ _ s
  refine wpAny_bind (wpAny_field ho hd (x := .ref x) rfl ?_)
  show wpAny _ _ (load x >>= _) _ _ s
  refine wpAny_bind (wpAny_load hb ?_)
  show wpAny _ _ (field (.ref it) 1 >>= _) _ _ s
  refine wpAny_bind (wpAny_field ho hd (x := .int i 0) rfl ?_)
  simp only [Int.toNat_natCast, hx]
  refine wpAny_bind (wpAny_rule (wpAny_bind (wpAny_setField ho hd (by simp) ?_)))
  refine wpAny_bind (wpAny_letGo ?_)
  show wpAny _ _ (newExc (.type "StopIteration") [] >>= _) _ _ _
  refine wpAny_bind ?_
  simp only [newExc, newTuple]
  refine wpAny_bind (wpAny_newObj_type ?_ (by size_fits))
  refine wpAny_bind (m := firstArgMember _ _) (wpAny_of_eq (a := Value.none) (by first | rfl | (simp only [firstArgMember]; rfl)) ?_)
  refine wpAny_newObj_type ?_ (by size_fits)
  simp only [raiseNew]
  refine wpAny_bind (wpAny_handled ?_)
  rw [show A.in1.handled = none from hh]
  refine wpAny_bind (wpAny_pure (wpAny_throw ?_))
  refine wpAny_bind (wpAny_isInstance (T := "StopIteration") (b := true) ⟨_, Heap.get?_push_size _ rfl, rfl⟩ isSubtype_stop ?_)
  exact wpAny_pure (hQ _ (((Heap.SameBut.update ..).extBut.push _).push _))
theorem Walks_ba (hh : A.handled = none) (I x : Addr) (hne : x ≠ I) (b : Array UInt8) :
    Walks prog w A I [I, x] [I] b.size (fun i v => ∃ u, v = .int ((b.toList.map fun c => (c.toNat : Int)).getD i 0) u) (fun i h => IsBaIter h I x b i) where
  sub := fun _ hb => by simp at hb; simp [hb]
  frame := fun _ _ _ st hk => let ⟨⟨o, ho, r⟩, hb⟩ := st; ⟨⟨o, hk I (by simp) o ho, r⟩, hk x (by simp) _ hb⟩
  item := fun i s Q E hi st hQ => by
    refine baIter_item hne st (c := b[i]) (by simp [hi]) fun h' hit' hs' => ?_
    refine hQ _ h' (s.toks + 1) ⟨s.toks, ?_⟩ hit' fun b o hb e => hs'.extBut b o (fun h => hb (by simp [h])) e
    simp [hi]
  done := fun s Q E st hQ => baIter_end hh st (by simp) fun h' he' => hQ h' s.toks fun b o hb e => he' b o (fun h => hb (by simp [h])) e
  self := fun _ _ _ _ st hQ => baIter_self st hQ
end
end Mine
end
-- S1
section
open PySem PySem.W PySem.W.X PyProof.Rows PySem.Calls PySem.Spec
set_option Elab.async false
set_option maxRecDepth 100000
set_option maxHeartbeats 4000000
namespace Mine
noncomputable abbrev setO (es : Array (Int × Value)) (ep : Nat) (t : SetTable) : Obj := { cls := .type "set", dict := none, data := .set es ep t, slots := #[] }
section
variable {prog : Program} {w : World} {A : Around} {E : Value → Shared → Prop} {s : Shared}
/-- set(x), where the filling loop is shown apart -/
theorem call_set_any {l : Addr} {o : Obj} {T : String} {Q : Value → Shared → Prop} (hh : A.handled = none) (ho : s.heap.get? l = some o) (hc : o.cls = .type T)
    (hs1 : isSubtype (.type T) (.type "set") = pure false) (hs2 : isSubtype (.type T) (.type "frozenset") = pure false) (hne : (Value.type T == Value.type "dict") = false)
    (hloop : ∀ (A' : Around) (led : Bool) (R : Result → Shared → Prop), A'.handled = none → A'.depth = A.depth → A'.units ≤ A.units + 3 →
      (∀ h' tk, Q (.ref s.heap.objs.size) { s with heap := h', toks := tk } → (∃ o', h'.get? s.heap.objs.size = some o' ∧ o'.cls = .type "set") → R (.ok (.ret .none)) { s with heap := h', toks := tk }) →
      wpAny (model prog w) A' (pyIter (.ref l)) (fun it s1 => codeAny (model prog w) A' (.builtin "set.update.loop" ⟨[.ref s.heap.objs.size, it], []⟩) R s1) (fun e s' => R (.error e) s')
        { s with heap := s.heap.push (setO #[] 0 (.fresh 0 0 led)) }) :
    wpAny (model prog w) A (call (.type "set") [.ref l]) Q E s := by
  obtain ⟨c, tl, hmro⟩ := PySem.F.called_set.mro
  have hmade := PySem.F.called_set.made
  have hsub := PySem.F.called_set.sub
  refine wpAny_call (codeAny_of_tree ?_)
  show wpAny _ _ (callAny (.type "set") _) _ _ _
  refine wpAny_pure ⟨Code.quiet_builtin _ (by decide +kernel), codeAny_builtin PySem.F.entry_type_call ?_⟩
  rw [Around.under_plain (weight_type_call_type "set" [.ref l] []) rfl]
  have h1 := PySem.F.called_set.notType
  have h2 := PySem.F.called_set.canCreate
  have hct := PySem.F.typeCall_set_1 (.ref l)
  repeat (any_goals (first | assumption | wp_step))
  refine codeAny_mono (code_set_new_1 (.ref l) (E := E) (Q₁ := fun obj s₁ => ∃ led : Bool, obj = .ref s.heap.objs.size ∧ s₁ = { s with heap := s.heap.push (setO #[] 0 (.fresh 0 0 led)) }) fun led => ⟨led, rfl, rfl⟩) fun r s₁ hr => ?_
  cases r with
  | error e => exact hr
  | ok fl =>
    cases fl with
    | ret obj =>
      obtain ⟨led, rfl, rfl⟩ := hr
      have hS : (s.heap.push (setO #[] 0 (.fresh 0 0 led))).get? s.heap.objs.size = some (setO #[] 0 (.fresh 0 0 led)) := Heap.get?_push_size _ rfl
      have hT : Shared.TypeIs { s with heap := s.heap.push (setO #[] 0 (.fresh 0 0 led)) } (.ref s.heap.objs.size) "set" := ⟨_, hS, rfl⟩
      have hli := PySem.F.called_set.init.lookup
      have hbi := PySem.F.called_set.init.bind (.ref s.heap.objs.size)
      repeat (any_goals (first | assumption | wp_step))
      refine codeAny_mono (codeAny_call_builtin (R := wants (fun r s₂ => r = .none ∧ (∃ h' tk, s₂ = { s with heap := h', toks := tk } ∧ Q (.ref s.heap.objs.size) { s with heap := h', toks := tk } ∧ ∃ o', h'.get? s.heap.objs.size = some o' ∧ o'.cls = .type "set")) E) PySem.F.called_set.init.plain PySem.F.entry_set_init (check_set_init_1 hT ?_)) fun r₂ s₂ hr₂ => ?_
      · have hol' : (s.heap.push (setO #[] 0 (.fresh 0 0 led))).get? l = some o := Heap.get?_push_of_some _ ho
        have hTl : Shared.TypeIs { s with heap := s.heap.push (setO #[] 0 (.fresh 0 0 led)) } (.ref l) T := ⟨o, hol', hc⟩
        obtain ⟨ocls, odict, odata, oslots⟩ := o
        simp only at hc
        subst hc
        unfold Builtin.«set.__init__» noKeywords Builtin.Frozenset.updateFrom
        generalize hPI : pyIter = PI
        wp_walk
        subst hPI
        refine wpAny_mono (hloop A.in1.in1 led (fun r s' => match r with | .ok (.ret _) => ∃ h' tk, s' = { s with heap := h', toks := tk } ∧ Q (.ref s.heap.objs.size) { s with heap := h', toks := tk } ∧ ∃ o', h'.get? s.heap.objs.size = some o' ∧ o'.cls = .type "set" | .ok _ => False | .error e => E e s') hh rfl (by show A.units + 1 + 1 ≤ A.units + 3; omega) (fun h' tk q ho' => ⟨h', tk, rfl, q, ho'⟩)) (fun it s1 h3 => ?_) fun e s' he => ?_
        · refine wpAny_bind (wpAny_runValue (codeAny_mono h3 fun r s' hr => ?_))
          cases r with
          | error e => exact hr
          | ok fl =>
            cases fl with
            | ret v => exact wpAny_pure (wpAny_pure ⟨rfl, hr⟩)
            | _ => exact hr.elim
        · exact he
      · cases r₂ with
        | error e => exact hr₂
        | ok fl₂ =>
          cases fl₂ with
          | ret r =>
            obtain ⟨rfl, h', tk, rfl, hQ', o', ho', hc'⟩ := hr₂
            repeat (any_goals (first | assumption | wp_step))
          | _ => exact hr₂.elim
    | _ => exact hr.elim
end
end Mine
end
-- S2
section
open PySem PySem.W PySem.W.X PyProof.Rows PySem.Calls PySem.Spec
set_option Elab.async false
set_option maxRecDepth 100000
set_option maxHeartbeats 4000000
namespace Mine
noncomputable def octInts (b : Array UInt8) : List Int := b.toList.map fun c => (c.toNat : Int)
theorem firstMet_octs (b : Array UInt8) (k : Int) : (firstMet (fun i => (octInts b).getD i 0) b.size).any (· == k) = (octInts b).any (· == k) := by
  rw [firstMet_any]
  have e : (List.range b.size).map (fun i => (octInts b).getD i 0) = octInts b := by
    apply List.ext_getElem
    · simp [octInts]
    · intro i h1 h2
      simp [octInts] at h1 h2 ⊢
      simp [h1]
  rw [e]
section
variable {prog : Program} {w : World} {A : Around} {E : Value → Shared → Prop} {s : Shared}
theorem set_ba {x : Addr} {b : Array UInt8} {Q : Value → Shared → Prop} (hh : A.handled = none) (hx : s.heap.get? x = some (baObj b)) (hb : b.size + 1 < scanBound)
    (h : ∀ h' tk n, n ≤ b.size → h'.SetOf (intKind prog w) s.heap.objs.size (fun k => (octInts b).any (· == k)) n →
      (∀ a o, a < s.heap.objs.size → s.heap.get? a = some o → h'.get? a = some o) → Q (.ref s.heap.objs.size) { s with heap := h', toks := tk }) :
    wpAny (model prog w) A (call (.type "set") [.ref x]) Q E s := by
  refine call_set_any hh hx rfl (by rw [isSubtype_type]; kernel_rfl) (by rw [isSubtype_type]; kernel_rfl) (by decide) ?_
  intro A' led R hA _ _ hR
  have hx1 : (s.heap.push (setO #[] 0 (.fresh 0 0 led))).get? x = some (baObj b) := Heap.get?_push_of_some _ hx
  have hS : (s.heap.push (setO #[] 0 (.fresh 0 0 led))).get? s.heap.objs.size = some (setO #[] 0 (.fresh 0 0 led)) := Heap.get?_push_size _ rfl
  have hxS : x < s.heap.objs.size := Heap.lt_size hx
  refine pyIter_ba hx1 ?_
  have hneI : x ≠ (s.heap.push (setO #[] 0 (.fresh 0 0 led))).objs.size := by
    rw [Heap.size_push]; exact Nat.ne_of_lt (Nat.lt_succ_of_lt hxS)
  have hSf : s.heap.objs.size ∉ [(s.heap.push (setO #[] 0 (.fresh 0 0 led))).objs.size, x] := by
    rw [Heap.size_push]; simp only [List.mem_cons, List.mem_singleton, List.not_mem_nil, or_false, not_or]
    exact ⟨Nat.ne_of_lt (Nat.lt_succ_self _), Nat.ne_of_gt hxS⟩
  refine codeAny_set_update_loopS ((Walks_ba (show A'.in1.handled = none from hA) _ x hneI b).toS) s.heap.objs.size hSf (fun i => (octInts b).getD i 0) (fun i v hP => hP) hb (b.size - 0) 0 _ (by omega) (Nat.zero_le _)
    ⟨⟨_, Heap.get?_push_size _ rfl, rfl, rfl⟩, Heap.get?_push_of_some _ hx1⟩ ?hS0 ?hR
  case hS0 =>
    have hget : ((s.heap.push (setO #[] 0 (.fresh 0 0 led))).push { cls := .type "bytearray_iterator", data := .fields #[.ref x, .int 0 0] }).get? s.heap.objs.size = some (setO #[] 0 (.fresh 0 0 led)) := Heap.get?_push_of_some _ hS
    exact SetOf_congr ((setObjOf_fresh (knd := intKind prog w) led).setOf hget (by unfold scanBound; omega)) (fun _ => rfl) rfl
  case hR =>
    intro s' hm hS'
    obtain ⟨h', g', d', tk', os'⟩ := s'
    have eg : g' = s.gens := hm.gens
    have ed : d' = s.drawn := hm.drawn
    have eo : os' = s.os := hm.os
    subst eg; subst ed; subst eo
    refine hR h' tk' (h h' tk' _ (firstMet_length_le _ _) (SetOf_congr hS' (fun k => (firstMet_octs b k).symm ▸ rfl) rfl) fun a o ha e => ?_) ?_
    · have hb1 : a ≠ s.heap.objs.size := Nat.ne_of_lt ha
      have hb2 : a ≠ (s.heap.push (setO #[] 0 (.fresh 0 0 led))).objs.size := by
        rw [Heap.size_push]; exact Nat.ne_of_lt (Nat.lt_succ_of_lt ha)
      exact hm.heap a o (by simp only [List.mem_cons, List.mem_singleton, List.not_mem_nil, or_false, not_or]; exact ⟨hb1, hb2⟩) (Heap.get?_push_of_some _ (Heap.get?_push_of_some _ e))
    · obtain ⟨o, _, _, _, ho, hex, _⟩ := hS'
      exact ⟨o, ho, hex.1⟩
end
end Mine
end
-- S3
section
open PySem PySem.W PySem.W.X PyProof.Rows PySem.Calls PySem.Spec
set_option Elab.async false
set_option maxRecDepth 100000
set_option maxHeartbeats 4000000
namespace Mine
/-- one element more, in the table -/
noncomputable def addP (et : Array (Int × Value) × SetTable) (h : Int) (x : Value) : Array (Int × Value) × SetTable :=
  let L := layNew et.2 et.1 h x
  if (!L.2.2.1 && L.2.1.tooFull) = true then ((relayAll L.2.1 L.1 (SetTable.grown L.1.size)).1, (relayAll L.2.1 L.1 (SetTable.grown L.1.size)).2.1) else (L.1, L.2.1)
section
variable {prog : Program} {w : World} {A : Around} {E : Value → Shared → Prop} {s : Shared}
noncomputable def SetC (prog : Program) (w : World) (h : Heap) (a : Addr) (et : Array (Int × Value) × SetTable) (S : Int → Bool) (n : Nat) : Prop := h.SetOf (intKind prog w) a S n ∧ ∃ ep, h.get? a = some (setO et.1 ep et.2)
theorem storeC {a : Addr} {es es' : Array (Int × Value)} {ep : Nat} {t t' : SetTable} {h : Heap} (ho : h.get? a = some (setO es ep t)) : (h.update a (Obj.putSet es' t')).get? a = some (setO es' (ep + 1) t') := by
  have := Heap.get?_update_self (Obj.putSet es' t') ho (by rw [putSet_of es' t' rfl]; rfl)
  rw [putSet_of es' t' rfl] at this; exact this
theorem addC {a : Addr} {et : Array (Int × Value) × SetTable} {S : Int → Bool} {n : Nat} {k : Int} {tk : Tok} {Q : Bool → Shared → Prop} (hC : SetC prog w s.heap a et S n) (hk : S k = false) (hroom : n + 1 < scanBound)
    (h : ∀ h', Heap.SameBut a s.heap h' → SetC prog w h' a (addP et (hashInt k) (.int k tk)) (fun k' => S k' || decide (k' = k)) (n + 1) → Q true { s with heap := h' }) :
    wpAny (model prog w) A (setAddHashed a (.int k tk) ((intKind prog w).hash k)) Q E s := by
  obtain ⟨hS, ep0, hg⟩ := hC
  obtain ⟨o, es, ep, t, ho, hex, hd, hel, hmem, hb, hf, hn⟩ := hS
  obtain rfl : o = setO et.1 ep0 et.2 := Option.some.inj (ho.symm.trans hg)
  obtain ⟨h1, h2, h3⟩ : et.1 = es ∧ ep0 = ep ∧ et.2 = t := by
    have := hd
    simp only [Data.set.injEq] at this
    exact this
  subst h1; subst h2; subst h3
  obtain ⟨es, t⟩ := et
  dsimp only at *
  have hkey : (intKind prog w).is k (.int k tk) = true := intKind_is _ _ _ _
  have hsc : (Value.int k tk).scannable = true := rfl
  have hb1 : es.size + 1 < scanBound := by rw [hn]; exact hroom
  unfold setAddHashed setAddHashedIn
  refine wpAny_holding (wpAny_bind (wpAny_setState_of ho rfl hf ?_))
  dsimp only
  rw [byScan_of hsc hb hel]
  simp only [↓reduceIte]
  unfold setAddByScan
  refine wpAny_bind ?_
  refine wpAny_bind (wpAny_rule ?_)
  refine wpAny_bind (wpAny_setScan_of hkey ho rfl hf hel ?_)
  cases hr : List.findIdx? (fun e => (intKind prog w).is k e.2) es.toList with
  | some j =>
    exfalso
    obtain ⟨hj, hpj, _⟩ := List.findIdx?_eq_some_iff_getElem.mp hr
    have hSk : S k = true := (hmem k).mpr ⟨es.toList[j], List.getElem_mem hj, hpj⟩
    rw [hk] at hSk; cases hSk
  | none =>
    dsimp only
    have hgw : ∀ (b : Bool) {s₁ : Shared} {Q' : Unit → Shared → Prop}, Q' () s₁ → wpAny (model prog w) A (match b with | true => rule "set.scan.the-table-gave-way" | false => pure ()) Q' E s₁ :=
      fun b s₁ Q' hq => by cases b <;> first | exact wpAny_pure hq | exact wpAny_rule hq
    have hend : ∀ h', Heap.SameBut a s.heap h' → SetC prog w h' a (addP (es, t) (hashInt k) (.int k tk)) (fun k' => S k' || decide (k' = k)) (n + 1) → Q true { s with heap := h' } := h
    unfold addP at hend
    dsimp only at hend
    have hperm := layNew_perm t es ((intKind prog w).hash k) (.int k tk)
    have hfits := layNew_fits t es ((intKind prog w).hash k) (.int k tk)
    have hL0 : layNew t es (hashInt k) (.int k tk) = layNew t es ((intKind prog w).hash k) (.int k tk) := rfl
    rw [hL0] at hend
    generalize hL : layNew t es ((intKind prog w).hash k) (.int k tk) = L at hperm hfits hend ⊢
    obtain ⟨es1, t1, wasDummy, gave⟩ := L
    dsimp only at hperm hfits hend ⊢
    rw [Array.toList_push] at hperm
    have hel1 : ElemsOf (intKind prog w) es1.toList := (hel.push hkey hsc).perm hperm
    have hmem1 : ∀ k', (S k' || decide (k' = k)) = true ↔ ∃ e ∈ es1.toList, (intKind prog w).is k' e.2 = true := mem_push_iff hkey hmem hperm
    have hsz1 : es1.size = n + 1 := by rw [← Array.length_toList, hperm.length_eq, List.length_append, Array.length_toList, hn]; rfl
    have hb1' : es1.size < scanBound := by rw [hsz1]; exact hroom
    refine wpAny_bind (hgw _ ?_)
    have hput : ∀ (g : Bool → Sem Unit), (∀ (b : Bool) (s₁ : Shared) (Q' : Unit → Shared → Prop), Q' () s₁ → wpAny (model prog w) A (g b) Q' E s₁) → wpAny (model prog w) A (do
        storeSet a es1 t1
        if (!wasDummy && t1.tooFull) = true then do
            g (relayAll t1 es1 (SetTable.grown es1.size)).2.2
            storeSet a (relayAll t1 es1 (SetTable.grown es1.size)).1 (relayAll t1 es1 (SetTable.grown es1.size)).2.1
            pure (some true)
          else pure (some true)) (fun r s' => ∃ h', r = some true ∧ s' = { s with heap := h' } ∧ Q true s') E s := by
      intro g hg2
      refine wpAny_bind (wpAny_storeSet_of ho rfl ?_ (fits_of_scanBound hb1'))
      obtain ⟨ho1, hS1⟩ := SetOf_store (knd := intKind prog w) ho hex rfl hel1 hmem1 hb1' hfits
      have hsb1 := Heap.SameBut.update s.heap a (Obj.putSet es1 t1)
      by_cases hc : (!wasDummy && t1.tooFull) = true
      · rw [if_pos hc] at hend ⊢
        have hp := relayAll_perm t1 es1 (SetTable.grown es1.size)
        have hfr := relayAll_fits t1 es1 (SetTable.grown es1.size)
        generalize hRl : relayAll t1 es1 (SetTable.grown es1.size) = Rl at hp hfr hend ⊢
        obtain ⟨es2, t3, gave2⟩ := Rl
        dsimp only at hp hfr hend ⊢
        have hel2 : ElemsOf (intKind prog w) es2.toList := hel1.perm hp
        have hmem2 : ∀ k', (S k' || decide (k' = k)) = true ↔ ∃ e ∈ es2.toList, (intKind prog w).is k' e.2 = true := fun k' => (hmem1 k').trans ⟨fun ⟨e, he, q⟩ => ⟨e, hp.mem_iff.mpr he, q⟩, fun ⟨e, he, q⟩ => ⟨e, hp.mem_iff.mp he, q⟩⟩
        have hsz : es2.size = es1.size := by rw [← Array.length_toList, hp.length_eq, Array.length_toList]
        have hb2 : es2.size < scanBound := by rw [hsz]; exact hb1'
        refine wpAny_bind (hg2 _ _ _ ?_)
        refine wpAny_bind (wpAny_storeSet_of ho1 rfl ?_ (fits_of_scanBound hb2))
        obtain ⟨ho2, hS2⟩ := SetOf_store (knd := intKind prog w) ho1 hex rfl hel2 hmem2 hb2 hfr
        rw [hsz, hsz1] at hS2
        exact wpAny_pure ⟨_, rfl, rfl, hend _ (hsb1.trans (Heap.SameBut.update _ a _)) ⟨hS2, _, ho2⟩⟩
      · rw [if_neg hc] at hend ⊢
        rw [hsz1] at hS1
        exact wpAny_pure ⟨_, rfl, rfl, hend _ hsb1 ⟨hS1, _, ho1⟩⟩
    split
    · refine wpAny_bind ?_
      rw [hashByValue_scannable 8 hsc]
      refine wpAny_pure ?_
      simp only [plainKind, ↓reduceIte]
      refine wpAny_mono (hput _ (fun b s₁ Q' hq => by cases b <;> first | exact wpAny_pure hq | exact wpAny_rule hq)) (fun r s' hr => ?_) fun _ _ x => x
      obtain ⟨h', rfl, rfl, hq⟩ := hr
      exact wpAny_pure hq
    · refine wpAny_bind (wpAny_pure ?_)
      simp only [↓reduceIte]
      refine wpAny_mono (hput _ (fun b s₁ Q' hq => by cases b <;> first | exact wpAny_pure hq | exact wpAny_rule hq)) (fun r s' hr => ?_) fun _ _ x => x
      obtain ⟨h', rfl, rfl, hq⟩ := hr
      exact wpAny_pure hq
end
end Mine
end
-- S4
section
open PySem PySem.W PySem.W.X PyProof.Rows PySem.Calls PySem.Spec
set_option Elab.async false
set_option maxRecDepth 100000
set_option maxHeartbeats 4000000
namespace Mine
/-- the table of a, a+1, .., one behind the other -/
noncomputable def fillP (a : Int) (led : Bool) (tok : Nat → Tok) : Nat → Array (Int × Value) × SetTable
  | 0 => (#[], .fresh 0 0 led)
  | i + 1 => addP (fillP a led tok i) (hashInt (a + i)) (.int (a + i) (tok i))
theorem fillP_congr {a : Int} {led : Bool} {tok tok' : Nat → Tok} : ∀ {i : Nat}, (∀ j, j < i → tok j = tok' j) → fillP a led tok i = fillP a led tok' i
  | 0, _ => rfl
  | i + 1, h => by
    unfold fillP
    rw [fillP_congr (i := i) fun j hj => h j (Nat.lt_succ_of_lt hj), h i (Nat.lt_succ_self i)]
noncomputable def between (a : Int) (n : Nat) (k : Int) : Bool := decide (a ≤ k ∧ k < a + n)
theorem between_succ (a : Int) (i : Nat) (k : Int) : (between a i k || decide (k = a + i)) = between a (i + 1) k := by
  unfold between
  rw [← Bool.decide_or]
  congr 1
  apply propext
  omega
section
variable {prog : Program} {w : World} {A : Around} {E : Value → Shared → Prop} {s : Shared}
theorem SetC_congr {h : Heap} {a : Addr} {et : Array (Int × Value) × SetTable} {S S' : Int → Bool} {n : Nat} (hC : SetC prog w h a et S n) (e : ∀ k, S k = S' k) : SetC prog w h a et S' n := by
  have : S = S' := funext e
  subst this; exact hC
theorem loopC {R : Result → Shared → Prop} {I : Addr} {fp wr : List Addr} {G : Array GenState → Array GenState → Prop} {n : Nat} {P : Nat → Value → Prop} {St : Nat → Shared → Prop}
    (W : WalksS prog w A.in1 I fp wr G n P St) (S : Addr) (hSf : S ∉ fp) (a : Int) (led : Bool) (hval : ∀ i v, P i v → ∃ t, v = .int (a + i) t) (hb : n + 1 < scanBound) :
    ∀ (k i : Nat) (tok : Nat → Tok) (s : Shared), n - i = k → i ≤ n → St i s → SetC prog w s.heap S (fillP a led tok i) (between a i) i →
      (∀ s' tok, Moved (S :: wr) G s s' → SetC prog w s'.heap S (fillP a led tok n) (between a n) n → R (.ok (.ret .none)) s') →
      codeAny (model prog w) A (.builtin "set.update.loop" ⟨[.ref S, .ref I], []⟩) R s := by
  have hSw : S ∉ wr := fun h => hSf (W.sub _ h)
  have hsub : ∀ b ∈ wr, b ∈ S :: wr := fun b hb => List.mem_cons_of_mem _ hb
  have hkeep : ∀ {h h' : Heap} {et : Array (Int × Value) × SetTable} {T : Int → Bool} {m : Nat}, (∀ o, h.get? S = some o → h'.get? S = some o) → SetC prog w h S et T m → SetC prog w h' S et T m := by
    rintro h h' et T m hk ⟨⟨o, es, ep, t, ho, rest⟩, ep', hg⟩
    exact ⟨⟨o, es, ep, t, hk o ho, rest⟩, ep', hk _ hg⟩
  intro k
  induction k with
  | zero =>
    intro i tok s hk hi hst hS hR
    have hin : i = n := by omega
    subst hin
    refine codeAny_builtin F.entry_set_update_loop ?_
    rw [Around.under_plainId F.plain_set_update_loop _]
    show wpAny _ A.in1 (pyNext (.ref I) >>= _) _ _ s
    refine wpAny_bind (W.done s _ _ hst fun s' hm => ?_)
    show wpAny _ A.in1 (ret Value.none) _ _ s'
    exact wpAny_pure (hR s' tok (hm.mono hsub) (hkeep (fun o e => hm.heap S _ hSw e) hS))
  | succ k ih =>
    intro i tok s hk hi hst hS hR
    have hlt : i < n := by omega
    refine codeAny_builtin F.entry_set_update_loop ?_
    rw [Around.under_plainId F.plain_set_update_loop _]
    show wpAny _ A.in1 (pyNext (.ref I) >>= _) _ _ s
    refine wpAny_bind (W.item i s _ _ hlt hst fun v s' hP hst' hm => ?_)
    obtain ⟨t, rfl⟩ := hval i v hP
    have hS' := hkeep (h' := s'.heap) (fun o e => hm.heap S _ hSw e) hS
    show wpAny _ A.in1 (holding [Value.int (a + i) t] (setAdd S (.int (a + i) t)) >>= _) _ _ s'
    refine wpAny_bind (wpAny_holding ?_)
    unfold setAdd
    refine wpAny_holding ?_
    refine wpAny_bind ((intKind prog w).pyHash (k := a + i) (intKind_is _ _ _ _) ?_)
    refine addC (s := { s' with toks := s'.toks + 1 }) hS' (by unfold between; simp) (by omega) fun h' hsb hS2 => ?_
    have hSi : SetC prog w h' S (fillP a led (fun j => if j < i then tok j else t) (i + 1)) (between a (i + 1)) (i + 1) := by
      have e1 : fillP a led (fun j => if j < i then tok j else t) (i + 1) = addP (fillP a led tok i) (hashInt (a + i)) (.int (a + i) t) := by
        show addP (fillP a led _ i) _ _ = _
        rw [fillP_congr (tok' := tok) fun j hj => by simp [hj]]
        simp
      rw [e1]
      exact SetC_congr hS2 fun k' => between_succ a i k'
    refine wpAny_pure ⟨plainId_quiet F.plain_set_update_loop _, ih (i + 1) _ _ (by omega) hlt (W.frame _ s' _ _ hst' (Nat.le_succ _) fun b hb o e => ?_) hSi fun s'' tok'' hm'' hS'' => ?_⟩
    · rw [hsb.2 b (fun h : b = S => hSf (by rw [← h]; exact hb))]; exact e
    · refine hR s'' tok'' (Moved.trans W.gtrans ((hm.mono hsub).then_heap (Nat.le_succ _) fun b o hb e => ?_) hm'') hS''
      rw [hsb.2 b (fun h : b = S => hb (by rw [h]; exact List.mem_cons_self))]; exact e
/-- set(range(a, a + n)), with its table -/
theorem set_rangeC {r : Addr} {a : Int} {n : Nat} {t u v : Tok} {Q : Value → Shared → Prop} (hh : A.handled = none) (hr : s.heap.get? r = some { cls := .type "range", data := .fields #[.int a t, .int (a + n) u, .int 1 v] })
    (hsm : Builtin.Range.small a (a + n) 1 = true) (hsz : Builtin.Range.rangeSize a (a + n) 1 = n) (hb : n + 1 < scanBound)
    (h : ∀ h' tk led tok, SetC prog w h' s.heap.objs.size (fillP a led tok n) (between a n) n →
      (∀ a o, a < s.heap.objs.size → s.heap.get? a = some o → h'.get? a = some o) → Q (.ref s.heap.objs.size) { s with heap := h', toks := tk }) :
    wpAny (model prog w) A (call (.type "set") [.ref r]) Q E s := by
  refine call_set_any hh hr rfl (by rw [isSubtype_type]; kernel_rfl) (by rw [isSubtype_type]; kernel_rfl) (by decide) ?_
  intro A' led R hA _ _ hR
  have hS : (s.heap.push (setO #[] 0 (.fresh 0 0 led))).get? s.heap.objs.size = some (setO #[] 0 (.fresh 0 0 led)) := Heap.get?_push_size _ rfl
  refine wpAny_pyIter_range (a := a) (b := a + n) (c := 1) (t := t) (u := u) (v := v) (Heap.get?_push_of_some _ hr) hsm ?_
  have hSf : s.heap.objs.size ∉ [(s.heap.push (setO #[] 0 (.fresh 0 0 led))).objs.size] := by
    rw [Heap.size_push]; simp only [List.mem_singleton]
    exact Nat.ne_of_lt (Nat.lt_succ_self _)
  refine loopC ((Walks.range (show A'.in1.handled = none from hA) _ a 1 n).toS) s.heap.objs.size hSf a led (fun i v hP => by obtain ⟨t, e⟩ := hP; exact ⟨t, by rw [e, Int.mul_one]⟩) hb (n - 0) 0 (fun _ => (0 : Nat)) _ (by omega) (Nat.zero_le _) ?hst ?hS0 ?hR
  case hst =>
    rw [hsz]
    show IsRangeIter _ _ (a + ((0 : Nat) : Int) * 1) ((n : Int) - ((0 : Nat) : Int)) 1
    rw [show a + ((0 : Nat) : Int) * 1 = a from by simp, show (n : Int) - ((0 : Nat) : Int) = n from by simp]
    exact Heap.get?_push_size _ rfl
  case hS0 =>
    have hget : ((s.heap.push (setO #[] 0 (.fresh 0 0 led))).push { cls := .type "range_iterator", data := .fields #[rawInt a, rawInt (Builtin.Range.rangeSize a (a + n) 1), rawInt 1] }).get? s.heap.objs.size = some (setO #[] 0 (.fresh 0 0 led)) := Heap.get?_push_of_some _ hS
    exact ⟨SetOf_congr ((setObjOf_fresh (knd := intKind prog w) led).setOf hget (by unfold scanBound; omega)) (fun k => by unfold between; simp) rfl, 0, hget⟩
  case hR =>
    intro s' tok hm hS'
    obtain ⟨h', g', d', tk', os'⟩ := s'
    have eg : g' = s.gens := hm.gens
    have ed : d' = s.drawn := hm.drawn
    have eo : os' = s.os := hm.os
    subst eg; subst ed; subst eo
    refine hR h' tk' (h h' tk' led tok hS' fun a o ha e => ?_) ?_
    · have hb1 : a ≠ s.heap.objs.size := Nat.ne_of_lt ha
      have hb2 : a ≠ (s.heap.push (setO #[] 0 (.fresh 0 0 led))).objs.size := by
        rw [Heap.size_push]; exact Nat.ne_of_lt (Nat.lt_succ_of_lt ha)
      exact hm.heap a o (by simp only [List.mem_cons, List.mem_singleton, List.not_mem_nil, or_false, not_or]; exact ⟨hb1, hb2⟩) (Heap.get?_push_of_some _ (Heap.get?_push_of_some _ e))
    · obtain ⟨_, ep, hg⟩ := hS'
      exact ⟨_, hg, rfl⟩
end
end Mine
end
-- S5
section
open PySem PySem.W PySem.W.X PyProof.Rows PySem.Calls PySem.Spec
set_option Elab.async false
set_option maxRecDepth 100000
set_option maxHeartbeats 4000000
namespace Mine
theorem forIn_stay {α β : Type} {M : Model} {A : Around} {E : Value → Shared → Prop} {s : Shared} {f : α → β → Sem (ForInStep β)} {b : β} : ∀ {l : List α} {Q : β → Shared → Prop},
    (∀ x ∈ l, ∀ (P : ForInStep β → Shared → Prop), P (.yield b) s → wpAny M A (f x b) P E s) → Q b s → wpAny M A (forIn l b f) Q E s
  | [], _, _, h => by rw [List.forIn_nil]; exact wpAny_pure h
  | x :: l, _, hf, h => by
    rw [List.forIn_cons]
    refine wpAny_bind (hf x (.head _) _ ?_)
    exact forIn_stay (fun y hy => hf y (.tail _ hy)) h
theorem set_sub : isSubtype (.type "set") (.type "set") = pure true := sub_set_self
theorem le_entry : entryFor table "set.__le__" = some Builtin.«frozenset.__le__» := entryFor_alias (id' := "frozenset.__le__") (by rw [fastTable_eq_tree]; kernel_rfl) (by first | rfl | decide +kernel) (by decide +kernel) (by rw [fastTable_eq_tree]; kernel_rfl)
section
variable {prog : Program} {w : World} {A : Around} {E : Value → Shared → Prop} {s : Shared}
theorem setOf_type {a : Addr} {S : Int → Bool} {n : Nat} (h : s.heap.SetOf (intKind prog w) a S n) : s.TypeIs (.ref a) "set" := let ⟨o, _, _, _, ho, hex, _⟩ := h; ⟨o, ho, hex.1⟩
theorem sizeOf_of {a : Addr} {S : Int → Bool} {n : Nat} {Q : Nat → Shared → Prop} (h : s.heap.SetOf (intKind prog w) a S n) (hQ : Q n s) : wpAny (model prog w) A (Builtin.Frozenset.sizeOf a) Q E s := by
  obtain ⟨o, es, ep, t, ho, hex, hd, hel, hmem, hb, hf, hn⟩ := h
  unfold Builtin.Frozenset.sizeOf
  exact wpAny_bind (wpAny_setEntries_of ho hd hf (wpAny_pure (hn ▸ hQ)))
theorem isAny_of {a : Addr} {S : Int → Bool} {n : Nat} {Q : Bool → Shared → Prop} (h : s.heap.SetOf (intKind prog w) a S n) (hQ : Q true s) : wpAny (model prog w) A (Builtin.Frozenset.isAnySet (.ref a)) Q E s := by
  unfold Builtin.Frozenset.isAnySet
  show wpAny _ _ (isInstance (.ref a) (.type "set") >>= _) _ _ _
  exact wpAny_bind (wpAny_isInstance (setOf_type h) set_sub (wpAny_pure hQ))
open Builtin Builtin.Frozenset in
theorem subset_of {a b : Addr} {S T : Int → Bool} {n m : Nat} {id : String} {Q : Bool → Shared → Prop} (hS : s.heap.SetOf (intKind prog w) a S n) (hT : s.heap.SetOf (intKind prog w) b T m) (hnm : n ≤ m) (hsub : ∀ k, S k = true → T k = true) (hQ : Q true s) :
    wpAny (model prog w) A (subsetOf id a b) Q E s := by
  unfold subsetOf
  refine wpAny_bind (sizeOf_of hS (wpAny_bind (sizeOf_of hT ?_)))
  rw [if_neg (by omega)]
  obtain ⟨o, es, ep, t, ho, hex, hd, hel, hmem, hb, hf, hn⟩ := (fun x => x) hS
  refine wpAny_bind (wpAny_setEpoch_of ho hd hf ?_)
  have hquiet : ∀ {c : Addr} {U : Int → Bool} {r : Nat}, s.heap.SetOf (intKind prog w) c U r → ∃ l : Array (Int × Value), (∀ {P : Array (Int × Value) → Shared → Prop}, P l s → wpAny (model prog w) A (setEntries c) P E s) ∧ (∀ e ∈ l.toList, ∃ k t, e.2 = .int k t ∧ e.1 = (intKind prog w).hash k ∧ U k = true) := by
    rintro c U r ⟨o, es, ep, t, ho, hex, hd, hel, hmem, hb, hf, hn⟩
    refine ⟨es, fun h => wpAny_setEntries_of ho hd hf h, fun e he => ?_⟩
    obtain ⟨⟨k, hk, hh⟩, _⟩ := hel e he
    obtain ⟨t, ht⟩ := Value.isInt_shape hk
    exact ⟨k, t, ht, hh, (hmem k).mpr ⟨e, he, hk⟩⟩
  obtain ⟨l1, he1, hl1⟩ := hquiet hS
  obtain ⟨l2, he2, hl2⟩ := hquiet hT
  have hw : ∀ {P : List (Int × Value) → Shared → Prop}, P l1.toList s → wpAny (model prog w) A (walkUnseen a b) P E s := by
    intro P hP
    unfold walkUnseen
    refine wpAny_bind (he1 (wpAny_bind (he2 ?_)))
    refine wpAny_bind (forIn_stay (fun x hx P' hP' => ?_) ?_)
    · obtain ⟨k, t, e⟩ : ∃ k t, x.2 = Value.int k t := (List.mem_append.mp hx).elim (fun h => let ⟨k, t, e, _⟩ := hl1 x h; ⟨k, t, e⟩) (fun h => let ⟨k, t, e, _⟩ := hl2 x h; ⟨k, t, e⟩)
      obtain ⟨h, y⟩ := x
      dsimp only at e
      subst e
      exact wpAny_bind (wpAny_of_eq (a := true) rfl (wpAny_pure hP'))
    · exact wpAny_pure hP
  refine wpAny_bind (hw ?_)
  refine wpAny_bind (forIn_stay (fun x hx P' hP' => ?_) ?_)
  · obtain ⟨k, t, e, e1, hk⟩ := hl1 x hx
    obtain ⟨h, y⟩ := x
    dsimp only at e e1
    subst e; subst e1
    dsimp only
    refine wpAny_bind (wpAny_holding (wpAny_setFind_of (intKind_is _ _ _ _) rfl hT fun r hr => ?_))
    rw [hsub k hk] at hr
    obtain ⟨j, rfl⟩ := Option.isSome_iff_exists.mp hr
    refine bm_if_false rfl ?_
    unfold unchanged
    refine wpAny_bind (wpAny_bind (wpAny_setEpoch_of ho hd hf ?_))
    refine bm_if_false (by simp) ?_
    exact wpAny_pure (wpAny_pure hP')
  · exact wpAny_pure hQ
open Builtin Builtin.Frozenset in
/-- a <= b -/
theorem set_le {a b : Addr} {S T : Int → Bool} {n m : Nat} {Q : Value → Shared → Prop} (hu : A.units < cLine) (hS : s.heap.SetOf (intKind prog w) a S n) (hT : s.heap.SetOf (intKind prog w) b T m) (hnm : n ≤ m) (hsub : ∀ k, S k = true → T k = true) (hQ : Q (.bool true) s) :
    wpAny (model prog w) A (compareOp .LtE (.ref a) (.ref b)) Q E s := by
  refine wpAny_richCompare_same_room (op := .LtE) (setOf_type hS) (setOf_type hT) PySem.F.slot_set_le (wpAny_call_entry PySem.F.slot_set_le (setOf_type hS) le_entry ?_ (PySem.F.args_set_le_2 _ _)) hu
  unfold «frozenset.__le__»
  k_delta "compare"
  refine wpAny_bind (wpAny_of_eq (a := (.ref a, .ref b)) rfl ?_)
  dsimp only
  refine wpAny_bind (isAny_of hT ?_)
  refine bm_if_false rfl ?_
  refine wpAny_bind (wpAny_of_eq (a := a) rfl ?_)
  refine wpAny_bind (wpAny_of_eq (a := b) rfl ?_)
  refine wpAny_bind (sizeOf_of hS ?_)
  refine wpAny_bind (sizeOf_of hT ?_)
  refine wpAny_bind (subset_of hS hT hnm hsub ?_)
  exact wpAny_pure ⟨_, rfl, by simp, hQ⟩
end
end Mine
end
-- S6
section
open PySem PySem.W PySem.W.X PyProof.Rows PySem.Calls PySem.Spec
set_option Elab.async false
set_option maxRecDepth 100000
set_option maxHeartbeats 4000000
namespace Mine
noncomputable def laidR (o : Option (SetTable × Array Nat)) (es : Array (Int × Value)) : Array (Int × Value) × SetTable := match o with
  | some (t, ord) => (ord.filterMap (es[·]?), t)
  | none => (es, .fresh 0 0 true)
noncomputable def laidOk (o : Option (SetTable × Array Nat)) (es : Array (Int × Value)) : Bool := match o with
  | some (t, ord) => coversAll ord es.size && t.fits (ord.filterMap (es[·]?)).size
  | none => false
theorem laid_perm {o : Option (SetTable × Array Nat)} {es : Array (Int × Value)} (h : laidOk o es = true) : List.Perm (laidR o es).1.toList es.toList ∧ (laidR o es).2.fits (laidR o es).1.size = true ∧ (laidR o es).1.size = es.size := by
  unfold laidOk at h
  unfold laidR
  split at h
  · rename_i t ord
    simp only [Bool.and_eq_true] at h
    have hp : List.Perm ord.toList (List.range es.size) := List.isPerm_iff.mp (by simpa [coversAll] using h.1)
    have h1 : List.Perm (ord.filterMap (es[·]?)).toList es.toList := by
      rw [Array.toList_filterMap]
      exact (hp.filterMap _).trans (by rw [filterMap_getElem?_range])
    refine ⟨h1, h.2, ?_⟩
    have h2 := h1.length_eq
    rw [Array.length_toList, Array.length_toList] at h2
    exact h2
  · cases h
/-- the tables of set(range(65, 91)) | set(range(97, 123)), one behind the other -/
noncomputable def orT1 (led : Bool) : Array (Int × Value) × SetTable := laidR ((SetTable.fresh 0 0 led).relaid ((#[] : Array (Int × Value)).map (·.1)) 52) #[]
noncomputable def orO2 (l1 led : Bool) (tok : Nat → Tok) : Option (SetTable × Array Nat) := SetTable.laid (orT1 led).2.mask (orT1 led).2.finger (orT1 led).2.moves ((orT1 led).2.led && (fillP 65 l1 tok 26).2.led) ((orT1 led).2.plain && (fillP 65 l1 tok 26).2.plain) ((fillP 65 l1 tok 26).1.map (·.1))
noncomputable def orT2 (l1 led : Bool) (tok : Nat → Tok) : Array (Int × Value) × SetTable := laidR (orO2 l1 led tok) (fillP 65 l1 tok 26).1
noncomputable def orO3 (l1 led : Bool) (tok : Nat → Tok) : Option (SetTable × Array Nat) := (orT2 l1 led tok).2.relaid ((orT2 l1 led tok).1.map (·.1)) 104
noncomputable def orT3 (l1 led : Bool) (tok : Nat → Tok) : Array (Int × Value) × SetTable := laidR (orO3 l1 led tok) (orT2 l1 led tok).1
theorem or_c1 (led : Bool) : (SetTable.fresh 0 0 led).roomFor 26 = some 52 := by cases led <;> rfl
theorem or_c2 (led : Bool) : laidOk ((SetTable.fresh 0 0 led).relaid ((#[] : Array (Int × Value)).map (·.1)) 52) #[] = true := by cases led <;> kernel_rfl
theorem or_e1 (led : Bool) : (orT1 led).1 = #[] := by cases led <;> kernel_rfl
theorem or_c3 (l1 led : Bool) (tok : Nat → Tok) : (orT1 led).2.road (fillP 65 l1 tok 26).2 = .clean := by cases led <;> cases l1 <;> kernel_rfl
theorem or_c4 (l1 led : Bool) (tok : Nat → Tok) : laidOk (orO2 l1 led tok) (fillP 65 l1 tok 26).1 = true := by cases led <;> cases l1 <;> kernel_rfl
theorem or_c5 (l1 led : Bool) (tok : Nat → Tok) : (orT2 l1 led tok).2.roomFor 26 = some 104 := by cases led <;> cases l1 <;> kernel_rfl
theorem or_c6 (l1 led : Bool) (tok : Nat → Tok) : laidOk (orO3 l1 led tok) (orT2 l1 led tok).1 = true := by cases led <;> cases l1 <;> kernel_rfl
theorem or_c7 (l1 led l2 : Bool) (tok tok2 : Nat → Tok) : (orT3 l1 led tok).2.road (fillP 97 l2 tok2 26).2 = .oneByOne := by cases led <;> cases l1 <;> cases l2 <;> kernel_rfl
theorem or_c8 (l2 : Bool) (tok2 : Nat → Tok) : (fillP 97 l2 tok2 26).2.plain = true := by cases l2 <;> kernel_rfl
theorem or_z1 (l1 : Bool) (tok : Nat → Tok) : (fillP 65 l1 tok 26).1.size = 26 := by cases l1 <;> kernel_rfl
theorem or_z2 (l1 : Bool) (tok : Nat → Tok) : (fillP 97 l1 tok 26).1.size = 26 := by cases l1 <;> kernel_rfl
theorem or_f1 (l1 : Bool) (tok : Nat → Tok) : (fillP 65 l1 tok 26).2.fits 26 = true := by cases l1 <;> kernel_rfl
theorem or_f2 (l1 : Bool) (tok : Nat → Tok) : (fillP 97 l1 tok 26).2.fits 26 = true := by cases l1 <;> kernel_rfl
end Mine
end
-- S7
section
open PySem PySem.W PySem.W.X PyProof.Rows PySem.Calls PySem.Spec
set_option Elab.async false
set_option maxRecDepth 100000
set_option maxHeartbeats 4000000
namespace Mine
theorem pick_go {α : Type} (next : Nat → Nat) : ∀ (fuel k : Nat) (left : List α) (out : Array α), fuel = left.length → List.Perm (pickOrder.go next fuel k left out).toList (out.toList ++ left)
  | 0, k, left, out, h => by
    have : left = [] := List.eq_nil_of_length_eq_zero h.symm
    subst this; unfold pickOrder.go; simp
  | fuel + 1, k, left, out, h => by
    unfold pickOrder.go
    cases e : left[next k % left.length]? with
    | none =>
      have h1 := List.getElem?_eq_none_iff.mp e
      have h2 : next k % left.length < left.length := Nat.mod_lt _ (by omega)
      omega
    | some x =>
      dsimp only
      have hi : next k % left.length < left.length := Nat.mod_lt _ (by omega)
      have hx : left[next k % left.length] = x := by
        rw [List.getElem?_eq_getElem hi] at e; exact Option.some.inj e
      refine (pick_go next fuel (k + 1) _ _ (by rw [List.length_eraseIdx_of_lt hi]; omega)).trans ?_
      rw [Array.toList_push, List.append_assoc]
      refine List.Perm.append_left _ ?_
      have h3 : left = left.take (next k % left.length) ++ x :: left.drop (next k % left.length + 1) := by
        rw [← hx, List.getElem_cons_drop, List.take_append_drop]
      rw [List.eraseIdx_eq_take_drop_succ]
      refine List.Perm.trans ?_ (List.Perm.of_eq h3.symm)
      show List.Perm (x :: (List.take (next k % left.length) left ++ List.drop (next k % left.length + 1) left)) _
      exact List.perm_middle.symm
theorem pick_perm {α : Type} (next : Nat → Nat) (xs : Array α) : List.Perm (pickOrder next xs).toList xs.toList := by
  unfold pickOrder
  have := pick_go next xs.size 0 xs.toList #[] (by simp)
  simpa using this
theorem or_entry : entryFor table "set.__or__" = some Builtin.«frozenset.__or__» := entryFor_alias (id' := "frozenset.__or__") (by rw [fastTable_eq_tree]; kernel_rfl) (by first | rfl | decide +kernel) (by decide +kernel) (by rw [fastTable_eq_tree]; kernel_rfl)
section
variable {prog : Program} {w : World} {A : Around} {E : Value → Shared → Prop} {s : Shared}
theorem state_of {a : Addr} {es : Array (Int × Value)} {ep : Nat} {t : SetTable} {Q : (Array (Int × Value) × Nat × SetTable) → Shared → Prop} (ho : s.heap.get? a = some (setO es ep t)) (hf : t.fits es.size = true) (h : Q (es, ep, t) s) : wpAny (model prog w) A (setState a) Q E s := wpAny_setState_of ho rfl hf h
theorem relay_of {a : Addr} {es : Array (Int × Value)} {ep : Nat} {t : SetTable} {wanted : Nat} {Q : Unit → Shared → Prop} (ho : s.heap.get? a = some (setO es ep t)) (hf : t.fits es.size = true) (hok : laidOk (t.relaid (es.map (·.1)) wanted) es = true) (hz : es.size ≤ 4096) (hw : SetTable.sizeAbove wanted ≤ sizeLine)
    (h : ∀ h', Heap.SameBut a s.heap h' → h'.get? a = some (setO (laidR (t.relaid (es.map (·.1)) wanted) es).1 (ep + 1) (laidR (t.relaid (es.map (·.1)) wanted) es).2) → Q () { s with heap := h' }) : wpAny (model prog w) A (setRelay a wanted) Q E s := by
  obtain ⟨h1, h2, h3⟩ := laid_perm hok
  unfold setRelay
  refine wpAny_bind (state_of ho hf ?_)
  dsimp only
  rw [if_neg (by omega)]
  have hre : ∀ {P : Array (Int × Value) × SetTable → Shared → Prop}, P (laidR (t.relaid (es.map (·.1)) wanted) es) s → wpAny (model prog w) A (do
      let some (t, order) := t.relaid (es.map (·.1)) wanted | unsupported "internal:set-table-without-room"
      let es' := order.filterMap (es[·]?)
      if es'.size != es.size then unsupported "internal:set-table-lost-an-element"
      pure (es', t)) P E s := by
    intro P hP
    cases e : t.relaid (es.map (·.1)) wanted with
    | none => rw [e] at hok; cases hok
    | some x =>
      obtain ⟨t', ord⟩ := x
      rw [e] at hP h3
      dsimp only [laidR] at hP h3 ⊢
      refine bm_if_false (by simp [h3]) ?_
      exact wpAny_pure hP
  refine wpAny_bind (hre ?_)
  refine wpAny_storeSet_of ho rfl (h _ (Heap.SameBut.update ..) (storeC ho)) ?_
  rw [h3]; exact Nat.le_trans hz (by decide)
/-- what a walk of a table of ints gives: its elements, in some order -/
theorem walk_of {a : Addr} {es : Array (Int × Value)} {ep : Nat} {t : SetTable} {Q : Array (Int × Value) → Shared → Prop} (ho : s.heap.get? a = some (setO es ep t)) (hf : t.fits es.size = true) (hp : t.plain = true) (hled : t.led = true ∨ es.size ≤ 1 ∨ w.params.followText "set-order" = true)
    (h : ∀ l : Array (Int × Value), List.Perm l.toList es.toList → Q l s) : wpAny (model prog w) A (setWalk a) Q E s := by
  unfold setWalk
  refine wpAny_bind (state_of ho hf ?_)
  dsimp only
  unfold setsByText
  refine wpAny_bind (wpAny_bind (wpAny_askSetting (wpAny_pure ?_)))
  show wpAny _ _ (if w.params.followText "set-order" = true then _ else _) _ _ _
  by_cases hb : w.params.followText "set-order" = true
  · rw [if_pos hb]
    refine wpAny_bind (wpAny_askSetting (wpAny_pure (h _ (pick_perm _ _))))
  · rw [if_neg hb]
    k_delta "drawn"
    refine bm_if_false (by rw [hp]; rfl) ?_
    k_delta "mustBeLed"
    refine wpAny_bind ?_
    refine bm_if_false ?_ (wpAny_pure (wpAny_pure (h _ .rfl)))
    rcases hled with hl | hl | hl
    · rw [hl]; rfl
    · have : decide (es.size > 1) = false := decide_eq_false (by omega)
      rw [this, Bool.and_false]
    · exact absurd hl hb
end
end Mine
end
-- S8
section
open PySem PySem.W PySem.W.X PyProof.Rows PySem.Calls PySem.Spec
set_option Elab.async false
set_option maxRecDepth 100000
set_option maxHeartbeats 4000000
namespace Mine
section
variable {prog : Program} {w : World} {A : Around} {E : Value → Shared → Prop} {s : Shared}
theorem quiet_of {c : Addr} {U : Int → Bool} {n : Nat} (h : s.heap.SetOf (intKind prog w) c U n) {Q : Option Bool × Unit → Shared → Prop} : 
    ∃ l : Array (Int × Value), (∀ {P : Array (Int × Value) → Shared → Prop}, P l s → wpAny (model prog w) A (setEntries c) P E s) ∧ ∀ e ∈ l.toList, ∃ k t, e.2 = Value.int k t := by
  obtain ⟨o, es, ep, t, ho, hex, hd, hel, hmem, hb, hf, hn⟩ := h
  refine ⟨es, fun h => wpAny_setEntries_of ho hd hf h, fun e he => ?_⟩
  obtain ⟨⟨k, hk, hh⟩, _⟩ := hel e he
  obtain ⟨t, ht⟩ := Value.isInt_shape hk
  exact ⟨k, t, ht⟩
theorem setsQuiet_of {a b : Addr} {U V : Int → Bool} {n m : Nat} {Q : Bool → Shared → Prop} (ha : s.heap.SetOf (intKind prog w) a U n) (hb : s.heap.SetOf (intKind prog w) b V m) (hQ : Q true s) : wpAny (model prog w) A (setsQuiet [a, b]) Q E s := by
  have one : ∀ {c : Addr} {U : Int → Bool} {n : Nat}, s.heap.SetOf (intKind prog w) c U n → ∃ l : Array (Int × Value), (∀ {P : Array (Int × Value) → Shared → Prop}, P l s → wpAny (model prog w) A (setEntries c) P E s) ∧ ∀ e ∈ l.toList, ∃ k t, e.2 = Value.int k t := fun hc => quiet_of (A := A) (E := E) hc (Q := fun _ _ => True)
  unfold setsQuiet
  refine wpAny_bind (forIn_stay (fun c hc P hP => ?_) ?_)
  · obtain ⟨l, h1, h2⟩ : ∃ l : Array (Int × Value), (∀ {P : Array (Int × Value) → Shared → Prop}, P l s → wpAny (model prog w) A (setEntries c) P E s) ∧ ∀ e ∈ l.toList, ∃ k t, e.2 = Value.int k t := by
      simp only [List.mem_cons, List.not_mem_nil, or_false] at hc
      rcases hc with rfl | rfl
      · exact one ha
      · exact one hb
    refine wpAny_bind (h1 ?_)
    rw [← Array.forIn_toList]
    refine wpAny_bind (forIn_stay (fun x hx P' hP' => ?_) ?_)
    · obtain ⟨k, t, e⟩ := h2 x hx
      obtain ⟨h, y⟩ := x
      dsimp only at e
      subst e
      exact wpAny_pure hP'
    · exact wpAny_pure hP
  · exact wpAny_pure hQ
theorem unseen_of {a r : Addr} {es : Array (Int × Value)} {ep : Nat} {t : SetTable} {S U : Int → Bool} {m n : Nat} {Q : Array (Int × Value) → Shared → Prop} (ho : s.heap.get? a = some (setO es ep t)) (hS : s.heap.SetOf (intKind prog w) a S m) (hf : t.fits es.size = true) (hp : t.plain = true)
    (hr : s.heap.SetOf (intKind prog w) r U n)
    (h : ∀ l : Array (Int × Value), ∀ h', List.Perm l.toList es.toList → Heap.SameBut r s.heap h' → h'.SetOf (intKind prog w) r U n → Q l { s with heap := h' }) : wpAny (model prog w) A (setWalkUnseen a [r] (some r)) Q E s := by
  have hsame : ∀ l : Array (Int × Value), List.Perm l.toList es.toList → Q l s := fun l hl => h l s.heap hl (Heap.SameBut.refl r s.heap) hr
  unfold setWalkUnseen
  refine wpAny_bind (state_of ho hf ?_)
  dsimp only
  unfold setsByText
  refine wpAny_bind (wpAny_bind (wpAny_askSetting (wpAny_pure ?_)))
  cases hc : (Params.followText (⟨(model prog w).prog, (model prog w).w.params⟩ : Setting).params "set-order" || t.led && t.plain || decide (es.size ≤ 1)) with
  | true =>
    refine bm_if_true rfl ?_
    refine walk_of ho hf hp ?_ hsame
    simp only [Bool.or_eq_true, Bool.and_eq_true, decide_eq_true_eq] at hc
    rcases hc with (hc | hc) | hc
    · exact .inr (.inr hc)
    · exact .inl hc.1
    · exact .inr (.inl hc)
  | false =>
    refine bm_if_false rfl ?_
    refine wpAny_bind (setsQuiet_of hS hr ?_)
    refine bm_if_false rfl ?_
    refine wpAny_bind (wpAny_rule ?_)
    obtain ⟨o, er, epr, tr, hro, hex, hd, hel, hmem, hb, hfr, hn⟩ := hr
    refine wpAny_bind (wpAny_setState_of hro hd hfr ?_)
    dsimp only
    by_cases hq : (tr.led && !t.led || tr.plain && !t.plain) = true
    · rw [if_pos hq]
      refine wpAny_bind (wpAny_storeSet_of hro hd ?_ (fits_of_scanBound hb))
      obtain ⟨_, hS1⟩ := SetOf_store (knd := intKind prog w) (t' := { mask := tr.mask, place := tr.place, dummies := tr.dummies, finger := tr.finger, led := tr.led && t.led, moves := tr.moves, plain := tr.plain && t.plain }) hro hex hd hel hmem hb (by exact hfr)
      rw [hn] at hS1
      exact wpAny_pure (h es _ .rfl (Heap.SameBut.update ..) hS1)
    · rw [if_neg hq]
      exact wpAny_pure (hsame es .rfl)
/-- the elements of a walk, put into a set one by one -/
theorem addAll_of {r a : Addr} {o : Obj} {Q : Unit → Shared → Prop} {f : (Int × Value) → Unit → Sem (ForInStep Unit)} (hne : r ≠ a)
    (hf : ∀ (k : Int) (t : Tok) (h1 : Heap) (V : Int → Bool) (n : Nat) (P : ForInStep Unit → Shared → Prop), h1.get? a = some o → h1.SetOf (intKind prog w) r V n → n + 1 < scanBound →
      (∀ h2, Heap.SameBut r h1 h2 → h2.SetOf (intKind prog w) r (fun k' => V k' || decide (k' = k)) (if V k then n else n + 1) → P (.yield ()) { s with heap := h2 }) → wpAny (model prog w) A (f ((intKind prog w).hash k, .int k t) ()) P E { s with heap := h1 }) :
    ∀ (l : List (Int × Value)) (h1 : Heap) (V : Int → Bool) (n : Nat), h1.get? a = some o → h1.SetOf (intKind prog w) r V n → n + l.length < scanBound → (∀ e ∈ l, ∃ k t, e.2 = Value.int k t ∧ e.1 = (intKind prog w).hash k) →
      (∀ h2 W m, Heap.SameBut r h1 h2 → h2.SetOf (intKind prog w) r W m → n ≤ m → (∀ k, V k = true → W k = true) → (∀ e ∈ l, ∀ k t, e.2 = Value.int k t → W k = true) → Q () { s with heap := h2 }) →
      wpAny (model prog w) A (forIn l () f) Q E { s with heap := h1 }
  | [], h1, V, n, ha, hr, hn, hl, h => by
    rw [List.forIn_nil]
    exact wpAny_pure (h h1 V n (Heap.SameBut.refl r h1) hr (Nat.le_refl _) (fun _ e => e) (fun e he => by cases he))
  | (hx, x) :: l, h1, V, n, ha, hr, hn, hl, h => by
    obtain ⟨k, t, e1, e2⟩ := hl _ (.head _)
    dsimp only at e1 e2
    subst e1; subst e2
    rw [List.forIn_cons]
    simp only [List.length_cons] at hn
    refine wpAny_bind (hf k t h1 V n _ ha hr (by omega) fun h2 hsb hr2 => ?_)
    refine addAll_of hne hf l h2 _ _ (by rw [hsb.2 a (fun q => hne q.symm)]; exact ha) hr2 (by split <;> omega) (fun e he => hl e (.tail _ he)) fun h3 W m hsb3 hr3 hm hV hW => ?_
    refine h h3 W m (hsb.trans hsb3) hr3 (by split at hm <;> omega) (fun k' hk' => hV k' (by rw [hk']; rfl)) fun e he k' t' ek => ?_
    rcases List.mem_cons.mp he with rfl | he
    · simp only [Value.int.injEq] at ek
      obtain ⟨rfl, _⟩ := ek
      exact hV _ (by simp)
    · exact hW e he k' t' ek
end
end Mine
end
-- S9
section
open PySem PySem.W PySem.W.X PyProof.Rows PySem.Calls PySem.Spec
set_option Elab.async false
set_option maxRecDepth 100000
set_option maxHeartbeats 4000000
namespace Mine
/-- the tables on the way of a | b, and the looks at them that pass -/
structure OrOk (eta etb : Array (Int × Value) × SetTable) (led : Bool) where
  T1 : Array (Int × Value) × SetTable
  e1 : laidR ((SetTable.fresh 0 0 led).relaid ((#[] : Array (Int × Value)).map (·.1)) 52) #[] = T1
  k1 : laidOk ((SetTable.fresh 0 0 led).relaid ((#[] : Array (Int × Value)).map (·.1)) 52) #[] = true
  c1 : (SetTable.fresh 0 0 led).roomFor eta.1.size = some 52
  c3 : T1.2.road eta.2 = .clean
  O2 : Option (SetTable × Array Nat)
  e2 : SetTable.laid T1.2.mask T1.2.finger T1.2.moves (T1.2.led && eta.2.led) (T1.2.plain && eta.2.plain) (eta.1.map (·.1)) = O2
  k2 : laidOk O2 eta.1 = true
  T2 : Array (Int × Value) × SetTable
  f2 : laidR O2 eta.1 = T2
  c5 : T2.2.roomFor etb.1.size = some 104
  k3 : laidOk (T2.2.relaid (T2.1.map (·.1)) 104) T2.1 = true
  T3 : Array (Int × Value) × SetTable
  e3 : laidR (T2.2.relaid (T2.1.map (·.1)) 104) T2.1 = T3
  c7 : T3.2.road etb.2 = .oneByOne
  pb : etb.2.plain = true
  za : eta.1.size = 26
  zb : etb.1.size = 26
  fa : eta.2.fits eta.1.size = true
  fb : etb.2.fits etb.1.size = true
section
variable {prog : Program} {w : World} {A : Around} {E : Value → Shared → Prop} {s : Shared}
/-- a table with the same elements -/
theorem setOf_perm {h : Heap} {a : Addr} {es es' : Array (Int × Value)} {ep ep' : Nat} {t t' : SetTable} {S : Int → Bool} {n : Nat} {h' : Heap} {a' : Addr} (hg : h.get? a = some (setO es ep t)) (hS : h.SetOf (intKind prog w) a S n) (hp : List.Perm es'.toList es.toList) (hf : t'.fits es'.size = true) (hg' : h'.get? a' = some (setO es' ep' t')) : h'.SetOf (intKind prog w) a' S n := by
  obtain ⟨o, es0, ep0, t0, ho, hex, hd, hel, hmem, hb, hf0, hn⟩ := hS
  obtain rfl : o = setO es ep t := Option.some.inj (ho.symm.trans hg)
  have h1 := hd
  simp only [Data.set.injEq] at h1
  obtain ⟨rfl, rfl, rfl⟩ := h1
  have hz : es'.size = es.size := by rw [← Array.length_toList, hp.length_eq, Array.length_toList]
  exact ⟨_, es', ep', t', hg', ⟨rfl, rfl, rfl⟩, rfl, hel.perm hp, fun k => (hmem k).trans ⟨fun ⟨e, he, q⟩ => ⟨e, hp.mem_iff.mpr he, q⟩, fun ⟨e, he, q⟩ => ⟨e, hp.mem_iff.mp he, q⟩⟩, by rw [hz]; exact hb, hf, by rw [hz]; exact hn⟩
open Builtin Builtin.Frozenset in
/-- a copy of a: a new set, with the table of the road -/
theorem copy_of {a : Addr} {eta etb : Array (Int × Value) × SetTable} {epa : Nat} {S : Int → Bool} {Q : Value → Shared → Prop} (K : ∀ led, OrOk eta etb led) (ga : s.heap.get? a = some (setO eta.1 epa eta.2)) (hSa : s.heap.SetOf (intKind prog w) a S 26)
    (hQ : ∀ h' led ep, h'.get? s.heap.objs.size = some (setO (K led).T2.1 ep (K led).T2.2) → h'.SetOf (intKind prog w) s.heap.objs.size S 26 → (∀ x o, s.heap.get? x = some o → h'.get? x = some o) → Q (.ref s.heap.objs.size) { s with heap := h' }) : wpAny (model prog w) A (copyOf a) Q E s := by
  unfold copyOf baseOf
  refine wpAny_bind (wpAny_bind (wpAny_isInstance (setOf_type hSa) set_sub (wpAny_pure ?_)))
  refine wpAny_bind (wpAny_newSet_of (knd := intKind prog w) fun led hr0 => ?_)
  refine wpAny_bind (wpAny_of_eq (a := s.heap.objs.size) rfl ?_)
  have hax : a < s.heap.objs.size := Heap.lt_size ga
  have hold : ∀ x o, s.heap.get? x = some o → x ≠ s.heap.objs.size := fun x o e => Nat.ne_of_lt (Heap.lt_size e)
  have gr0 : (s.heap.push (setO #[] 0 (.fresh 0 0 led))).get? s.heap.objs.size = some (setO #[] 0 (.fresh 0 0 led)) := Heap.get?_push_size _ rfl
  have ga0 : (s.heap.push (setO #[] 0 (.fresh 0 0 led))).get? a = some (setO eta.1 epa eta.2) := Heap.get?_push_of_some _ ga
  generalize hK : K led = k at *
  obtain ⟨T1, e1, k1, c1, c3, O2, e2, k2, T2, f2, c5, k3, T3, e3, c7, pb, za, zb, fa, fb⟩ := k
  refine wpAny_bind ?_
  unfold setMerge
  refine bm_if_false (by simpa using Nat.ne_of_gt hax) ?_
  refine wpAny_bind (state_of ga0 fa ?_)
  dsimp only
  refine bm_if_false (by simp [Array.isEmpty, za]) ?_
  refine wpAny_bind ?_
  unfold setRoomFor
  refine wpAny_bind (state_of gr0 rfl ?_)
  rw [c1]
  refine relay_of gr0 rfl k1 (by decide) (by decide) fun h1 sb1 g1 => ?_
  obtain ⟨p1, p2, p3⟩ := laid_perm k1
  rw [e1] at g1 p1 p2 p3
  refine wpAny_bind (state_of g1 p2 ?_)
  dsimp only
  rw [c3]
  refine wpAny_bind ?_
  k_delta "reordered"
  rw [e2]
  have hre : ∀ {P : Array (Int × Value) × SetTable → Shared → Prop} {s₁ : Shared}, P T2 s₁ → wpAny (model prog w) A (do
      let some (t, order) := O2 | unsupported "internal:set-table-without-room"
      let es' := order.filterMap (eta.1[·]?)
      if es'.size != eta.1.size then unsupported "internal:set-table-lost-an-element"
      pure (es', t)) P E s₁ := by
    intro P s₁ hP
    obtain ⟨_, _, h3⟩ := laid_perm k2
    cases e : O2 with
    | none => rw [e] at k2; cases k2
    | some x =>
      obtain ⟨t', ord⟩ := x
      rw [e] at f2 h3
      dsimp only [laidR] at f2 h3 ⊢
      refine bm_if_false (by simp [h3]) ?_
      rw [f2]
      exact wpAny_pure hP
  refine hre ?_
  obtain ⟨q1, q2, q3⟩ := laid_perm k2
  rw [f2] at q1 q2 q3
  refine wpAny_storeSet_of g1 rfl ?_ (by rw [q3, za]; decide)
  have g2 := storeC (es' := T2.1) (t' := T2.2) g1
  have hold2 : ∀ x o, s.heap.get? x = some o → (h1.update s.heap.objs.size (Obj.putSet T2.1 T2.2)).get? x = some o := fun x o e =>
    (Heap.get?_update_other _ _ (hold x o e).symm).trans ((sb1.2 x (hold x o e)).trans (Heap.get?_push_of_some _ e))
  have := hQ (h1.update s.heap.objs.size (Obj.putSet T2.1 T2.2)) led
  rw [hK] at this
  exact wpAny_pure (this _ g2 (setOf_perm ga hSa q1 q2 g2) hold2)
open Builtin Builtin.Frozenset in
/-- a | b -/
theorem set_or_of {a b : Addr} {eta etb : Array (Int × Value) × SetTable} {epa epb : Nat} {S T : Int → Bool} {Q : Value → Shared → Prop} (K : ∀ led, OrOk eta etb led) (hab : a ≠ b) (ga : s.heap.get? a = some (setO eta.1 epa eta.2)) (hSa : s.heap.SetOf (intKind prog w) a S 26)
    (gb : s.heap.get? b = some (setO etb.1 epb etb.2)) (hSb : s.heap.SetOf (intKind prog w) b T 26)
    (hQ : ∀ h' U m, h'.SetOf (intKind prog w) s.heap.objs.size U m → 26 ≤ m → (∀ k, S k = true ∨ T k = true → U k = true) → (∀ x o, s.heap.get? x = some o → h'.get? x = some o) → Q (.ref s.heap.objs.size) { s with heap := h' }) :
    wpAny (model prog w) A (binaryOp .BitOr (.ref a) (.ref b)) Q E s := by
  refine wpAny_binaryOp_same (op := .BitOr) (setOf_type hSa) (setOf_type hSb) PySem.F.fills_set_or PySem.F.slot_set_or (wpAny_call_entry PySem.F.slot_set_or (setOf_type hSa) or_entry ?_ (PySem.F.args_set_or_2 _ _))
  unfold «frozenset.__or__»
  k_delta "binary"
  refine wpAny_bind (wpAny_of_eq (a := (.ref a, .ref b)) rfl ?_)
  dsimp only
  refine wpAny_bind ?_
  show wpAny _ _ (isAnySet (.ref a) >>= _) _ _ _
  refine wpAny_bind (isAny_of hSa ?_)
  refine isAny_of hSb ?_
  refine bm_if_false rfl ?_
  refine wpAny_bind (wpAny_of_eq (a := a) rfl ?_)
  k_delta "union"
  refine wpAny_bind (wpAny_bind ?_)
  refine copy_of K ga hSa fun h1 led epr gr hSr hold => ?_
  refine bm_if_true (by simpa using (fun e : b = a => hab e.symm)) ?_
  have hbr : b ≠ s.heap.objs.size := Nat.ne_of_lt (Heap.lt_size gb)
  have hb1 := hold b _ gb
  have hSb1 : h1.SetOf (intKind prog w) b T 26 := by
    obtain ⟨o, es, ep, t, ho, rest⟩ := hSb
    exact ⟨o, es, ep, t, hold b o ho, rest⟩
  generalize hK : K led = k at *
  obtain ⟨T1, e1, k1, c1, c3, O2, e2, k2, T2, f2, c5, k3, T3, e3, c7, pb, za, zb, fa, fb⟩ := k
  dsimp only at gr
  obtain ⟨q1, q2, q3⟩ := laid_perm k2
  rw [f2] at q1 q2 q3
  refine wpAny_bind (wpAny_of_eq (a := s.heap.objs.size) rfl ?_)
  refine wpAny_bind (wpAny_holding ?_)
  unfold updateFrom
  refine wpAny_bind (isAny_of hSb1 ?_)
  refine bm_if_true rfl ?_
  refine wpAny_bind (wpAny_of_eq (a := b) rfl ?_)
  unfold merge
  refine wpAny_bind (wpAny_setEpoch_of hb1 rfl fb ?_)
  unfold setMerge
  refine bm_if_false (by simpa using (fun e : s.heap.objs.size = b => hbr e.symm)) ?_
  refine wpAny_bind (state_of hb1 fb ?_)
  dsimp only
  refine bm_if_false (by simp [Array.isEmpty, zb]) ?_
  refine wpAny_bind ?_
  unfold setRoomFor
  refine wpAny_bind (state_of gr q2 ?_)
  rw [c5]
  refine relay_of gr q2 k3 (by rw [q3, za]; decide) (by decide) fun h2 sb2 g2 => ?_
  obtain ⟨r1, r2, r3⟩ := laid_perm k3
  rw [e3] at g2 r1 r2 r3
  refine wpAny_bind (state_of g2 r2 ?_)
  dsimp only
  rw [c7]
  have hb2 : h2.get? b = some (setO etb.1 epb etb.2) := (sb2.2 b hbr).trans hb1
  have hSr2 : h2.SetOf (intKind prog w) s.heap.objs.size S 26 := setOf_perm gr hSr r1 r2 g2
  have hSb2 : h2.SetOf (intKind prog w) b T 26 := by
    obtain ⟨o, es, ep, t, ho, rest⟩ := hSb1
    exact ⟨o, es, ep, t, (sb2.2 b hbr).trans ho, rest⟩
  refine wpAny_bind (unseen_of (s := { s with heap := h2 }) hb2 hSb2 fb pb hSr2 fun l h3 hl sb3 hSr3 => ?_)
  have hb3 : h3.get? b = some (setO etb.1 epb etb.2) := (sb3.2 b hbr).trans hb2
  rw [← Array.forIn_toList]
  have hlen : l.toList.length = 26 := by rw [hl.length_eq, Array.length_toList, zb]
  have hints : ∀ e ∈ l.toList, ∃ k t, e.2 = Value.int k t ∧ e.1 = (intKind prog w).hash k := by
    intro e he
    obtain ⟨o, es, ep, t, ho, hex, hd, hel, _⟩ := hSb2
    obtain rfl : o = setO etb.1 epb etb.2 := Option.some.inj (ho.symm.trans hb2)
    simp only [Data.set.injEq] at hd
    obtain ⟨rfl, rfl, rfl⟩ := hd
    obtain ⟨⟨k, hk, hh⟩, _⟩ := hel e (hl.mem_iff.mp he)
    obtain ⟨t, ht⟩ := Value.isInt_shape hk
    exact ⟨k, t, ht, hh⟩
  have hin : ∀ k, T k = true → ∃ e ∈ l.toList, ∃ t, e.2 = Value.int k t := by
    intro k hk
    obtain ⟨o, es, ep, t, ho, hex, hd, hel, hmem, _⟩ := hSb2
    obtain rfl : o = setO etb.1 epb etb.2 := Option.some.inj (ho.symm.trans hb2)
    simp only [Data.set.injEq] at hd
    obtain ⟨rfl, rfl, rfl⟩ := hd
    obtain ⟨e, he, hke⟩ := (hmem k).mp hk
    obtain ⟨t, ht⟩ := Value.isInt_shape hke
    exact ⟨e, hl.mem_iff.mpr he, t, ht⟩
  refine wpAny_bind (addAll_of (s := s) (r := s.heap.objs.size) (a := b) (o := setO etb.1 epb etb.2) hbr.symm ?_ l.toList h3 S 26 hb3 hSr3 (by rw [hlen]; decide) hints fun h4 U m sb4 hSr4 hm hS4 hT4 => ?_)
  · intro k t h5 V n P hb5 hr5 hn5 hP
    dsimp only
    refine wpAny_bind (wpAny_holding (wpAny_setAddHashed_of (knd := intKind prog w) (intKind_is _ _ _ _) rfl hr5 hn5 fun h6 sb6 hr6 => ?_))
    have hb6 : h6.get? b = some (setO etb.1 epb etb.2) := (sb6.2 b hbr).trans hb5
    unfold unchanged
    refine wpAny_bind (wpAny_bind (wpAny_setEpoch_of hb6 rfl fb ?_))
    refine bm_if_false (by simp) ?_
    refine wpAny_pure ?_
    refine wpAny_bind (state_of hb6 fb ?_)
    refine bm_if_false (by simp) ?_
    exact wpAny_pure (hP h6 sb6 hr6)
  · refine wpAny_pure (wpAny_pure (wpAny_pure ⟨_, rfl, by simp, hQ h4 U m hSr4 hm ?_ ?_⟩))
    · rintro k (hk | hk)
      · exact hS4 k hk
      · obtain ⟨e, he, t, ht⟩ := hin k hk
        exact hT4 e he k t ht
    · intro x o e
      have hx : x ≠ s.heap.objs.size := Nat.ne_of_lt (Heap.lt_size e)
      exact (sb4.2 x hx).trans ((sb3.2 x hx).trans ((sb2.2 x hx).trans (hold x o e)))
end
end Mine
end
-- S10
section
open PySem PySem.W PySem.W.X PyProof.Rows PySem.Calls PySem.Spec
set_option Elab.async false
set_option maxRecDepth 100000
set_option maxHeartbeats 4000000
namespace Mine
theorem orOk_mk {eta etb T1 T2 T3 : Array (Int × Value) × SetTable} {O2 : Option (SetTable × Array Nat)} {led : Bool} (e1 : laidR ((SetTable.fresh 0 0 led).relaid ((#[] : Array (Int × Value)).map (·.1)) 52) #[] = T1)
  (k1 : laidOk ((SetTable.fresh 0 0 led).relaid ((#[] : Array (Int × Value)).map (·.1)) 52) #[] = true) (c1 : (SetTable.fresh 0 0 led).roomFor 26 = some 52) (c3 : T1.2.road eta.2 = .clean)
  (e2 : SetTable.laid T1.2.mask T1.2.finger T1.2.moves (T1.2.led && eta.2.led) (T1.2.plain && eta.2.plain) (eta.1.map (·.1)) = O2) (k2 : laidOk O2 eta.1 = true) (f2 : laidR O2 eta.1 = T2) (c5 : T2.2.roomFor 26 = some 104)
  (k3 : laidOk (T2.2.relaid (T2.1.map (·.1)) 104) T2.1 = true) (e3 : laidR (T2.2.relaid (T2.1.map (·.1)) 104) T2.1 = T3) (c7 : T3.2.road etb.2 = .oneByOne) (pb : etb.2.plain = true) (za : eta.1.size = 26) (zb : etb.1.size = 26) (fa : eta.2.fits 26 = true) (fb : etb.2.fits 26 = true) : Nonempty (OrOk eta etb led) :=
  ⟨⟨T1, e1, k1, by rw [za]; exact c1, c3, O2, e2, k2, T2, f2, by rw [zb]; exact c5, k3, T3, e3, c7, pb, za, zb, by rw [za]; exact fa, by rw [zb]; exact fb⟩⟩
theorem orOk (l1 l2 : Bool) (tok tok2 : Nat → Tok) (led : Bool) : Nonempty (OrOk (fillP 65 l1 tok 26) (fillP 97 l2 tok2 26) led) :=
  orOk_mk (T1 := orT1 led) (O2 := orO2 l1 led tok) (T2 := orT2 l1 led tok) (T3 := orT3 l1 led tok) (by unfold orT1; exact rfl) (or_c2 led) (or_c1 led) (or_c3 l1 led tok) (by unfold orO2; exact rfl) (or_c4 l1 led tok) (by unfold orT2; exact rfl) (or_c5 l1 led tok)
    (by have := or_c6 l1 led tok; unfold orO3 at this; exact this) (by unfold orT3 orO3; exact rfl) (or_c7 l1 led l2 tok tok2) (or_c8 l2 tok2) (or_z1 l1 tok) (or_z2 l2 tok2) (or_f1 l1 tok) (or_f2 l2 tok2)
noncomputable def letters (k : Int) : Bool := between 65 26 k || between 97 26 k
section
variable {prog : Program} {w : World} {A : Around} {E : Value → Shared → Prop} {s : Shared}
/-- set(range(65, 91)) | set(range(97, 123)) -/
theorem set_or {a b : Addr} {l1 l2 : Bool} {tok tok2 : Nat → Tok} {Q : Value → Shared → Prop} (hab : a ≠ b) (ha : SetC prog w s.heap a (fillP 65 l1 tok 26) (between 65 26) 26) (hb : SetC prog w s.heap b (fillP 97 l2 tok2 26) (between 97 26) 26)
    (hQ : ∀ h' U m, h'.SetOf (intKind prog w) s.heap.objs.size U m → 26 ≤ m → (∀ k, letters k = true → U k = true) → (∀ x o, s.heap.get? x = some o → h'.get? x = some o) → Q (.ref s.heap.objs.size) { s with heap := h' }) :
    wpAny (model prog w) A (binaryOp .BitOr (.ref a) (.ref b)) Q E s := by
  obtain ⟨hSa, epa, ga⟩ := ha
  obtain ⟨hSb, epb, gb⟩ := hb
  exact set_or_of (fun led => Classical.choice (orOk l1 l2 tok tok2 led)) hab ga hSa gb hSb fun h' U m h1 h2 h3 h4 => hQ h' U m h1 h2 (fun k hk => h3 k (by simpa [letters] using hk)) h4
end
end Mine
end
-- U0
section
open PySem PySem.W PySem.W.X PyProof.Rows PySem.Calls PySem.Spec
set_option Elab.async false
set_option maxRecDepth 100000
set_option maxHeartbeats 4000000
namespace Mine
theorem x8_front (n : Nat) (K : Array UInt8) : ((be4 n).toArray ++ K).extract 0 4 = (be4 n).toArray := by
  have := pre_front (be4 n).toArray K
  simpa [be4] using this
theorem x8_back (n : Nat) (K : Array UInt8) (hK : K.size = 4) : ((be4 n).toArray ++ K).extract 4 8 = K := by
  have := pre_back (be4 n).toArray K
  have e : ((be4 n).toArray ++ K).size = 8 := by simp [be4, hK]
  rw [e] at this
  simpa [be4] using this
open Builtin Builtin.Struct in
theorem nat_be4 (n : Nat) (h : n < 4294967296) : natOf true (be4 n).toArray = n := by
  unfold natOf be4
  simp [Memoryview.littleEndian]
  omega
open Builtin Builtin.Bytes in
theorem buffer_bytes {prog : Program} {w : World} {A : Around} {E : Value → Shared → Prop} {s : Shared} {Q : Option (Array UInt8) → Shared → Prop} {b : Array UInt8} {t : Tok} {id : String} {full : Bool} (h : Q (some b) s) : wpAny (model prog w) A (buffer? id (.bytes b t) full) Q E s := by
  have hTb : s.TypeIs (.bytes b t) "bytes" := typeIs_bytes _ _ _
  unfold buffer?
  refine wpAny_bind (wpAny_specialOf hTb by_buffer ?_)
  dsimp only
  refine wpAny_bind ?_
  unfold slotIsOwn
  refine wpAny_bind (wpAny_specialOf hTb by_buffer ?_)
  dsimp only
  have e2 : "bytes.__buffer__".dropRight ("__buffer__".length + 1) = "bytes" := by decide +kernel
  refine bm_if_false (by decide +kernel) ?_
  rw [e2]
  refine wpAny_isInstance hTb (U := "bytes") by_sub ?_
  refine bm_if_false rfl ?_
  refine wpAny_bind (wpAny_specialOf hTb by_buffer ?_)
  show wpAny _ _ (ownRelease (.bytes b t) >>= _) _ _ _
  refine wpAny_bind ?_
  unfold ownRelease
  refine wpAny_bind ?_
  unfold slotIsOwn
  refine wpAny_bind (wpAny_specialOf hTb by_release ?_)
  refine wpAny_pure (wpAny_pure ?_)
  refine bm_if_false rfl ?_
  exact wpAny_bind (wpAny_of_eq (a := b) rfl (wpAny_pure h))
open Builtin Builtin.Struct in
theorem unpack_tree {prog : Program} {w : World} {A : Around} {E : Value → Shared → Prop} {s : Shared} {Q : Fin → Shared → Prop} {n : Nat} {K : Array UInt8} {t u : Tok} (hn : n < 4294967296) (hK : K.size = 4)
  (h : Q (.done (.ret (.ref s.heap.objs.size))) { s with heap := s.heap.push { cls := .type "tuple", data := .seq #[.int n s.toks, .bytes K (s.toks + 1)] }, toks := s.toks + 2 }) :
  wpAny (model prog w) A (Builtin.«_struct.unpack» ⟨[.str (Str.ofString "!I4s") u, .bytes ((be4 n).toArray ++ K) t], []⟩) Q E s := by
  show wpAny _ A (moduleFormat (.str (Str.ofString "!I4s") u) >>= fun f => unpackExact "_struct.unpack" (pure f) (.bytes ((be4 n).toArray ++ K) t)) Q E s
  refine wpAny_bind (wpAny_of_eq (a := (⟨true, false, [⟨'I', 1, 0, 4⟩, ⟨'s', 4, 4, 1⟩], 8, 2⟩ : Format)) (by kernel_rfl) ?_)
  unfold unpackExact
  refine wpAny_bind ?_
  unfold Bytes.bytesLike
  refine wpAny_bind ?_
  refine buffer_bytes ?_
  refine wpAny_pure ?_
  refine wpAny_bind (wpAny_pure ?_)
  have hz : ((be4 n).toArray ++ K).size = 8 := by simp [be4, hK]
  refine bm_if_false (by simp [hz]) ?_
  refine wpAny_bind ?_
  unfold Struct.unpacked
  dsimp only
  refine wpAny_bind ?_
  rw [List.forIn_cons]
  refine wpAny_bind ?_
  dsimp only
  show wpAny _ _ (if Bytes.tooLong 1 = true then _ else (forIn [:1] (#[] : Array Value) _ >>= fun s => pure (ForInStep.yield s))) _ _ _
  refine bm_if_false rfl ?_
  refine wpAny_bind ?_
  rw [show forIn (m := Sem) [:1] = forIn (m := Sem) (List.range' 0 1 1) from by funext; simp [Std.Legacy.Range.forIn_eq_forIn_range']]
  rw [show List.range' 0 1 = [0] from rfl, List.forIn_cons]
  refine wpAny_bind ?_
  have e0 : natOf true (((be4 n).toArray ++ K).extract (0 + 0 + 0 * 4) (0 + 0 + (0 + 1) * 4)) = n := by
    show natOf true (((be4 n).toArray ++ K).extract 0 4) = n
    rw [x8_front, nat_be4 n hn]
  show wpAny _ _ (mkInt (if ('I'.isLower && decide (natOf true (((be4 n).toArray ++ K).extract (0 + 0 + 0 * 4) (0 + 0 + (0 + 1) * 4)) ≥ 2 ^ (8 * 4 - 1))) = true then _ else ((natOf true (((be4 n).toArray ++ K).extract (0 + 0 + 0 * 4) (0 + 0 + (0 + 1) * 4)) : Nat) : Int)) >>= fun v => pure (ForInStep.yield (#[].push v))) _ _ _
  rw [e0, if_neg (show ¬ (('I'.isLower && decide (n ≥ 2 ^ (8 * 4 - 1))) = true) by simp [show 'I'.isLower = false from rfl])]
  refine wpAny_bind (wpAny_mkInt (wpAny_pure ?_))
  dsimp only
  rw [List.forIn_nil]
  refine wpAny_pure (wpAny_pure ?_)
  dsimp only
  rw [List.forIn_cons]
  refine wpAny_bind ?_
  dsimp only
  show wpAny _ _ (mkBytes (((be4 n).toArray ++ K).extract 4 8) >>= fun v => pure (ForInStep.yield _)) _ _ _
  rw [x8_back n K hK]
  refine wpAny_bind (wpAny_mkBytes (wpAny_pure ?_) (by rw [hK]; decide))
  dsimp only
  rw [List.forIn_nil]
  refine wpAny_pure ?_
  simp only [newTuple]
  refine wpAny_newObj_type (wpAny_pure h) (show (2 : Nat) ≤ sizeLine by decide)
theorem unpack_any {prog : Program} {w : World} {A : Around} {E : Value → Shared → Prop} {s : Shared} {Q : Value → Shared → Prop} {n : Nat} {K : Array UInt8} {t u : Tok} (hn : n < 4294967296) (hK : K.size = 4)
  (h : Q (.ref s.heap.objs.size) { s with heap := s.heap.push { cls := .type "tuple", data := .seq #[.int n s.toks, .bytes K (s.toks + 1)] }, toks := s.toks + 2 }) :
  wpAny (model prog w) A (call (.builtin "_struct.unpack") [.str (Str.ofString "!I4s") u, .bytes ((be4 n).toArray ++ K) t]) Q E s :=
  call_function_entry (by decide +kernel) (by decide +kernel) (entryFor_of_fast (by kernel_rfl)) (by unfold argsOk; kernel_rfl) (unpack_tree hn hK ⟨_, rfl, h⟩)
theorem unpack_K {prog : Program} {w : World} {A : Around} {E : Value → Shared → Prop} {s : Shared} {h₀ : Heap} {L : Addr} {m : Str → Option Value} {news : List (Addr × Obj)} {Q : Value → Shared → Prop} {n : Nat} {K X : Array UInt8} {t u : Tok} (F : Fr h₀ L s.heap m) (N : News h₀ L s.heap news) (hX : X = (be4 n).toArray ++ K) (hn : n < 4294967296) (hK : K.size = 4)
  (h : ∀ x h' t1 t2 tk, Fr h₀ L h' m → News h₀ L h' ((x, tupObj [.int n t1, .bytes K t2] 0) :: news) → (∀ p ∈ news, p.1 < x) → Q (.ref x) { s with heap := h', toks := tk }) :
  wpAny (model prog w) A (call (.builtin "_struct.unpack") [.str (Str.ofString "!I4s") u, .bytes X t]) Q E s := by
  subst hX
  exact unpack_any hn hK (h _ _ _ _ _ (F.push _) (News.push F N _) fun p hp => Heap.lt_size (N p hp).1)
end Mine
end
-- H5
section
open PySem PySem.W PySem.W.X PyProof.Rows PySem.Calls PySem.Spec
set_option Elab.async false
set_option maxRecDepth 100000
set_option maxHeartbeats 4000000
namespace Mine
theorem execs_app {env : Env} {rest : List Stmt} : ∀ (l : List Stmt), execs (l ++ rest) env = execs l env >>= fun f => match f with | .next => execs rest env | f => pure f
  | [] => rfl
  | st :: l => by
    show (exec st env >>= fun f => match f with | .next => execs (l ++ rest) env | f => pure f) = (exec st env >>= fun f => match f with | .next => execs l env | f => pure f) >>= _
    rw [bind_assoc]
    refine congrArg _ (funext fun f => ?_)
    cases f with
    | next => exact execs_app l
    | _ => rfl
/-- a run of statements by the kit's walk, then on -/
theorem execsH_app {M : Model} {A : Around} {E : Value → Shared → Prop} {env : Env} {rest : List Stmt} {Q : Flow → Shared → Prop} {s : Shared} (l : List Stmt) (h : wpAny M A (execs l env) (fun f s' => match f with | .next => wpH M A (execs rest env) Q E s' | f => Q f s') E s) : wpH M A (execs (l ++ rest) env) Q E s := by
  rw [execs_app]
  refine wpH_bind (.of_any (wpAny_mono h (fun f s' h' => ?_) fun _ _ x => x))
  cases f <;> first | exact h' | exact wpH_pure h'
theorem AssignH1 {M : Model} {A : Around} {E : Value → Shared → Prop} {s : Shared} {env : Env} {t value : Expr} {pos : Pos} {Q : Flow → Shared → Prop}
    (h : wpH M A (eval value env) (fun v s₁ => wpAny M A (assign t env v) (fun _ => Q .next) E s₁) E s)
    (ht : (assignEach [t] env).map (·.2) = [assign t env] := by rfl) (hs : swapsWithSole [t] value pos.line env = pure false := by rfl) (hw : swappedStores [t] value env = pure none := by rfl) :
    wpH M A (exec (.Assign [t] value pos) env) Q E s :=
  AssignH (wpH_mono h (fun v s₁ h₁ => by rw [ht]; exact h₁) fun _ _ x => x) hs hw
section
variable {prog : Program} {w : World} {A : Around} {E : Value → Shared → Prop} {s : Shared} {h₀ : Heap} {L : Addr} {m : Str → Option Value} {news : List (Addr × Obj)} {Q : Value → Shared → Prop}
theorem none_of_new {x : Addr} (F : Fr h₀ L s.heap m) (hx : s.heap.get? x = none) : h₀.get? x = none := by
  cases e : h₀.get? x with
  | none => rfl
  | some o => rw [F.keep x o e] at hx; cases hx
theorem L_ne {x : Addr} (F : Fr h₀ L s.heap m) (hx : s.heap.get? x = none) : x ≠ L := by
  rintro rfl
  obtain ⟨oL, es, ep, hL, _⟩ := F.ns
  rw [hL] at hx; cases hx
/-- bytearray(b), in the ledger -/
theorem bytearrayK {b : Array UInt8} {t : Tok} (hh : A.handled = none) (hd : A.depth ≤ 800) (hu : A.units ≤ 800) (hz : b.size ≤ sizeLine) (F : Fr h₀ L s.heap m) (N : News h₀ L s.heap news)
    (h : ∀ x h', Fr h₀ L h' m → News h₀ L h' ((x, baObj b) :: news) → Q (.ref x) { s with heap := h' }) : wpH (model prog w) A (call (.type "bytearray") [.bytes b t]) Q E s := by
  refine bytearrayH hh hd hu hz fun x h' hk hx hx0 => h x h' (F.keeps hk) ?_
  intro p hp
  rcases List.mem_cons.mp hp with rfl | hp
  · exact ⟨hx, L_ne F hx0, none_of_new F hx0⟩
  · exact ⟨hk _ _ (N p hp).1, (N p hp).2⟩
theorem more_new {o : Obj} {h' : Heap} {x : Addr} (F : Fr h₀ L s.heap m) (N : News h₀ L s.heap news) (hk : ∀ a o, s.heap.get? a = some o → h'.get? a = some o) (hx : h'.get? x = some o) (hx0 : s.heap.get? x = none) : News h₀ L h' ((x, o) :: news) := by
  intro p hp
  rcases List.mem_cons.mp hp with rfl | hp
  · exact ⟨hx, L_ne F hx0, none_of_new F hx0⟩
  · exact ⟨hk _ _ (N p hp).1, (N p hp).2⟩
theorem size_none : s.heap.get? s.heap.objs.size = none := Heap.get?_none_of_le (Nat.le_refl _)
/-- set(bytearray), in the ledger -/
theorem set_ba_K {x : Addr} {b : Array UInt8} (hh : A.handled = none) (hb : b.size + 1 < scanBound) (F : Fr h₀ L s.heap m) (N : News h₀ L s.heap news) (hx : (x, baObj b) ∈ news)
    (h : ∀ S o n h' tk, n ≤ b.size → o.SetObjOf (intKind prog w) (fun k => (octInts b).any (· == k)) n → Fr h₀ L h' m → News h₀ L h' ((S, o) :: news) → Q (.ref S) { s with heap := h', toks := tk }) :
    wpAny (model prog w) A (call (.type "set") [.ref x]) Q E s := by
  refine set_ba hh (N _ hx).1 hb fun h' tk n hn hS hk => ?_
  have hk' : ∀ a o, s.heap.get? a = some o → h'.get? a = some o := fun a o e => hk a o (Heap.lt_size e) e
  obtain ⟨o, ho, hso⟩ := hS.objOf
  exact h _ o n h' tk hn hso (F.keeps hk') (more_new F N hk' ho size_none)
/-- a set of letters of the program, with its table -/
inductive IsRun (prog : Program) (w : World) (a : Int) (o : Obj) : Prop
  | mk (led : Bool) (tok : Nat → Tok) (ep : Nat) (e : o = setO (fillP a led tok 26).1 ep (fillP a led tok 26).2) (h : o.SetObjOf (intKind prog w) (between a 26) 26) : IsRun prog w a o
theorem set_range_K {r : Addr} {a b : Int} {t u v : Tok} (hb : b = a + 26) (hsm : Builtin.Range.small a (a + 26) 1 = true) (hsz : Builtin.Range.rangeSize a (a + 26) 1 = 26) (hh : A.handled = none) (F : Fr h₀ L s.heap m) (N : News h₀ L s.heap news)
    (hr : s.heap.get? r = some { cls := .type "range", data := .fields #[.int a t, .int b u, .int 1 v] })
    (h : ∀ S o h' tk, IsRun prog w a o → Fr h₀ L h' m → News h₀ L h' ((S, o) :: news) → (∀ p ∈ news, p.1 < S) → Q (.ref S) { s with heap := h', toks := tk }) :
    wpAny (model prog w) A (call (.type "set") [.ref r]) Q E s := by
  subst hb
  refine set_rangeC (n := 26) hh hr hsm hsz (by decide) fun h' tk led tok hC hk => ?_
  have hk' : ∀ a o, s.heap.get? a = some o → h'.get? a = some o := fun a o e => hk a o (Heap.lt_size e) e
  obtain ⟨hS, ep, hg⟩ := hC
  obtain ⟨o, ho, hso⟩ := hS.objOf
  have : o = setO (fillP a led tok 26).1 ep (fillP a led tok 26).2 := Option.some.inj (ho.symm.trans hg)
  exact h _ o h' tk ⟨led, tok, ep, this, hso⟩ (F.keeps hk') (more_new F N hk' ho size_none) fun p hp => Heap.lt_size (N p hp).1
theorem setOf_of {a : Addr} {o : Obj} {S : Int → Bool} {n : Nat} (N : News h₀ L s.heap news) (ha : (a, o) ∈ news) (h : o.SetObjOf (intKind prog w) S n) (hn : n < scanBound) : s.heap.SetOf (intKind prog w) a S n := h.setOf (N _ ha).1 hn
theorem set_or_K {a b : Addr} {oa ob : Obj} (hab : @Ne Nat a b) (F : Fr h₀ L s.heap m) (N : News h₀ L s.heap news) (ha : (a, oa) ∈ news) (hb : (b, ob) ∈ news) (ra : IsRun prog w 65 oa) (rb : IsRun prog w 97 ob)
    (h : ∀ S o U n h', 26 ≤ n → n < scanBound → o.SetObjOf (intKind prog w) U n → (∀ k, letters k = true → U k = true) → Fr h₀ L h' m → News h₀ L h' ((S, o) :: news) → Q (.ref S) { s with heap := h' }) :
    wpAny (model prog w) A (binaryOp .BitOr (.ref a) (.ref b)) Q E s := by
  obtain ⟨l1, tok1, ep1, e1, h1⟩ := ra
  obtain ⟨l2, tok2, ep2, e2, h2⟩ := rb
  have ca : SetC prog w s.heap a (fillP 65 l1 tok1 26) (between 65 26) 26 := ⟨setOf_of N ha h1 (by decide), ep1, e1 ▸ (N _ ha).1⟩
  have cb : SetC prog w s.heap b (fillP 97 l2 tok2 26) (between 97 26) 26 := ⟨setOf_of N hb h2 (by decide), ep2, e2 ▸ (N _ hb).1⟩
  refine set_or hab ca cb fun h' U n hU hn hl hk => ?_
  have hn2 : n < scanBound := by
    obtain ⟨_, _, _, _, _, _, _, _, _, hb, _, hn⟩ := hU
    rw [← hn]; exact hb
  obtain ⟨o, ho, hso⟩ := hU.objOf
  exact h _ o U n h' hn hn2 hso hl (F.keeps hk) (more_new F N hk ho size_none)
theorem set_le_K {a b : Addr} {oa ob : Obj} {S T : Int → Bool} {n k : Nat} (hu : A.units ≤ 800) (N : News h₀ L s.heap news) (ha : (a, oa) ∈ news) (hb : (b, ob) ∈ news) (sa : oa.SetObjOf (intKind prog w) S n) (sb : ob.SetObjOf (intKind prog w) T k) (hk : k < scanBound) (hnk : n ≤ k) (h1 : ∀ k, S k = true → letters k = true) (h2 : ∀ k, letters k = true → T k = true) (h : Q (.bool true) s) :
    wpAny (model prog w) A (compareOp .LtE (.ref a) (.ref b)) Q E s :=
  set_le (Nat.lt_of_le_of_lt hu (by decide)) (setOf_of N ha sa (Nat.lt_of_le_of_lt hnk hk)) (setOf_of N hb sb hk) hnk (fun k e => h2 k (h1 k e)) h
/-- f(e) of a built-in class, its one argument over wpH -/
theorem callH_one {env : Env} {e : Expr} {pos : Pos} {T : String} (he : backTo pos (starEach [e] env) = [(false, eval e env)]) (h : wpH (model prog w) A (eval e env) (fun v s₁ => wpH (model prog w) A (call (.type T) [v]) Q E s₁) E s) :
    wpH (model prog w) A (callWith pos (.type T) [] (backTo pos (starEach [e] env)) []) Q E s := by
  rw [he]
  refine callWithH rfl (show (1 : Nat) ≤ 30 by decide) (splicedH_cons (wpH_mono h (fun v s₁ h₁ => splicedH_nil ⟨⟨.machine, .inr (.inl rfl), Looks.of_pure rfl⟩, h₁⟩) fun _ _ x => x))
end
end Mine
end
-- M8
section
open PySem PySem.W PySem.W.X PyProof.Rows PySem.Calls PySem.Spec
set_option Elab.async false
set_option maxRecDepth 100000
set_option maxHeartbeats 4000000
namespace Mine
local macro_rules | `(tactic| walk_at "none at all") => `(tactic| fail)
local macro_rules | `(tactic| walk_at "none at all") => `(tactic| fail)
local macro_rules | `(tactic| walk_at "none at all") => `(tactic| fail)
local macro_rules | `(tactic| walk_at "none at all") => `(tactic| fail)
local macro_rules | `(tactic| walk_at "none at all") => `(tactic| fail)
local macro_rules | `(tactic| walk_at "none at all") => `(tactic| fail)
theorem reset_M8 : True := by
  w_top off
  trivial
theorem warm8 : (PySem.Challenge.rw_ar0037_04 = PySem.Challenge.rw_ar0037_04) ∧ (∀ P, Kc P = Kc P) := by
  k_fill
  exact ⟨rfl, fun _ => rfl⟩

theorem gt_no {prog : Program} {w : World} {A : Around} {E : Value → Shared → Prop} {s : Shared} {a b : Int} {t u : Tok} {Q : Value → Shared → Prop} (h : ¬ a > b) (hQ : Q (.bool false) s) : wpAny (model prog w) A (compareOp .Gt (.int a t) (.int b u)) Q E s := gt_int (by rw [decide_eq_false h]; exact hQ)
theorem truthy_some {prog : Program} {w : World} {A : Around} {E : Value → Shared → Prop} {s : Shared} {b : Array UInt8} {t : Tok} {k : Nat} {Q : Bool → Shared → Prop} (hb : b.size = k + 1) (h : Q true { s with toks := s.toks + 1 + 1 }) (hz : b.size ≤ 1099511627776 := by omega) : wpAny (model prog w) A (truthy (.bytes b t)) Q E s := by
  refine truthy_bytes hz ?_
  have e : (((b.size : Nat) : Int) != 0) = true := by rw [hb]; simp; omega
  rw [e]; exact h
theorem len_is {prog : Program} {w : World} {A : Around} {E : Value → Shared → Prop} {s : Shared} {b : Array UInt8} {t : Tok} {k : Nat} {Q : Value → Shared → Prop} (hb : b.size = k) (hk : k ≤ 1099511627776) (h : ∀ t' tk, Q (.int (k : Nat) t') { s with toks := tk }) : wpAny (model prog w) A (call (.builtin "len") [.bytes b t]) Q E s := by
  subst hb
  exact len_bytes' hk h

theorem drop6 {q a b c d e f : Addr × Obj} {l : List (Addr × Obj)} : ∀ p ∈ q :: l, p ∈ q :: a :: b :: c :: d :: e :: f :: l := fun p hp => by
  rcases List.mem_cons.mp hp with rfl | hp
  · exact .head _
  · exact .tail _ (.tail _ (.tail _ (.tail _ (.tail _ (.tail _ (.tail _ hp))))))

local macro_rules | `(tactic| walk_at "compareOp Gt int int") => `(tactic| (k_here; refine gt_no (by ((have e9 : (2 ^ Int.toNat 31 - 1 : Int) = 2147483647 := by decide); omega)) ?_))
local macro_rules | `(tactic| walk_at "call ref") => `(tactic| (k_here; (with_reducible show wpAny _ _ (call (Value.ref 90) [Value.ref _, Value.int _ _]) _ _ _); k_dflt (refine' read_pre ?B ?F ?X ?N ?T ?K ?ne ?off ?hd ?hu ?hz ?hp ?_; (case B => k_asm); (case F => k_asm); (case X => k_asm); (case N => k_asm); (case T => k_asm); (case K => exact rfl); (case ne => assumption); (case off => exact off2 (by assumption) (by assumption) (by assumption) (by assumption) (by assumption)); (case hd => (dsimp only [ktrTop, Around.deeper]; omega)); (case hu => (dsimp only [ktrTop, Around.deeper]; omega)); (case hz => assumption); (case hp => first | rfl | assumption); k_whole); intro h' k' u' t' F' N'))
local macro_rules | `(tactic| walk_at "truthy bytes") => `(tactic| (k_here; (with_reducible show wpAny _ _ (truthy (Value.bytes _ _)) _ _ _); refine truthy_some (by assumption) ?_))
local macro_rules | `(tactic| walk_at "call builtin:len") => `(tactic| (k_here; (with_reducible show wpAny _ _ (call (Value.builtin "len") [Value.bytes _ _]) _ _ _); k_dflt (refine' len_is ?z ?y ?_; (case z => assumption); (case y => decide); k_whole); intro t' k'))
local macro_rules | `(tactic| walk_at "call builtin:_struct.unpack") => `(tactic| (k_here; k_dflt (refine' unpack_K ?F ?N ?e ?hn ?hK ?_; (case F => k_asm); (case N => k_asm); (case e => assumption); (case hn => omega); (case hK => assumption); k_whole); intro x' h' t1' t2' tk' F' N' l1))
local macro_rules | `(tactic| walk_at "call type:set") => `(tactic| (k_here; (with_reducible show wpAny _ _ (call (Value.type "set") [Value.ref _]) _ _ _); k_dflt (refine' set_ba_K ?hh ?hb ?F ?N ?hx ?_; (case hh => exact rfl); (case F => k_asm); (case N => k_asm); (case hx => k_mem); (case hb => (unfold scanBound; omega)); k_whole); intro S' o' n' h' tk' hn' hso' F' N'))
local macro_rules | `(tactic| walk_at "call type:set") => `(tactic| (k_here; (with_reducible show wpAny _ _ (call (Value.type "set") [Value.ref _]) _ _ _); k_dflt (refine' set_range_K ?b ?sm ?sz ?hh ?F ?N ?hr ?_; (case F => k_asm); (case N => k_asm); (case hr => assumption); (case b => rfl); (case sm => rfl); (case sz => rfl); (case hh => exact rfl); k_whole); intro S' o' h' tk' hrun' F' N' l1; (try k_lt l1)))
local macro_rules | `(tactic| walk_at "binaryOp BitOr ref ref") => `(tactic| (k_here; k_dflt (refine' set_or_K ?ab ?F ?N ?a ?b ?ra ?rb ?_; (case F => k_asm); (case N => k_asm); (case a => k_mem); (case b => k_mem); (case ra => assumption); (case rb => assumption); (case ab => omega); k_whole); intro S' o' U' n' h' hn' hsb' hso' hle' F' N'))

local macro_rules | `(tactic| walk_at "compareOp LtE ref ref") => `(tactic| (k_here; k_dflt (refine' set_le_K ?u ?N ?a ?b ?sa ?sb ?k ?nk ?hs1 ?hs2 ?_; (case N => k_asm); (case a => k_mem); (case b => k_mem); (case sa => assumption); (case sb => assumption); (case k => assumption); (case nk => omega); (case u => (dsimp only [ktrTop, Around.deeper]; omega)); (case hs1 => assumption); (case hs2 => assumption); k_whole)))
theorem clt_spec {prog : Program} {w : World} {p : Program} {loose : List Str} {mean : ExcName → Option Value} {mg mb : Str → Option Value}
  {dp un : Nat} {gd : Option (List Code)} {cn : Str} {cs : Scope} {a : Addr} {ccd : Value} {cl : List (Str × Addr)} {outer : List Env} {A₀ : Around} {base h₀ : Heap} {L : Addr} {m : Str → Option Value} {s : Shared} {Q E : Value → Shared → Prop}
  {x dx r dr : Addr} {t tkO t1 t2 t3 t4 : Tok} {rest : List (Addr × Obj)} {R X8 K : Array UInt8} {n : Nat} {us : Tok}
  (B : Below A₀ base outer h₀) (F : Fr h₀ L s.heap m) (X : (Kc w.params).In h₀) (N : News h₀ L s.heap ((x, instObj 126 dx) :: (dx, octObj w.params (X8 ++ R) t tkO) :: (r, instObj 651 dr) :: (dr, rdObj w.params (.bytes sigB us) .none x t1 t2 t3 t4) :: rest)) (T : Top p loose mean mg mb h₀) (hk : cs.kind = .function)
  (hne : @Ne Nat x dx) (hr : @Ne Nat r dr) (h1 : @Ne Nat r x) (h2 : @Ne Nat r dx) (h3 : @Ne Nat dr x) (h4 : @Ne Nat dr dx) (hoff : OwnOff rest [x, dx]) (hofr : OwnOff rest [r, dr]) (hd : dp ≤ 390) (hu : un ≤ 380) (hz : (X8 ++ R).size ≤ 100000) (hX8 : X8.size = 8) (hX : X8 = (be4 n).toArray ++ K) (hK : K.size = 4) (hn : n < 2147483648) (hlet : ∀ k, (octInts K).any (· == k) = true → letters k = true)
  (ret : ∀ x' h' tk' t' u1 u2, Fr h₀ L h' m → News h₀ L h' ((x', tupObj [.int n u1, .bytes K u2] 0) :: (x, instObj 126 dx) :: (dx, octObj w.params (R) t' tkO) :: (r, instObj 651 dr) :: (dr, rdObj w.params (.bytes sigB us) .none x t1 t2 t3 t4) :: rest) → (x < x' ∧ dx < x' ∧ r < x' ∧ dr < x' ∧ AllLt x' rest) → Q (.ref x') { s with heap := h', toks := tk' }) :
  wpH (model prog w) (ktrTop dp un gd cn cs L a ccd cl outer) (call (.ref 533) [.ref r]) Q E s := by
  refine wpH_call ?_
  k_dflt (refine' code_defH ?k1 ?k2 ?k3 ?k4 ?k5 ?kA ?kF ?kK ?k6 ?k7 ?k8 ?k9 ?kB ?_ ?c2 ?c3 ?c4 ?c5; (case kA => exact rfl); (case kF => exact rfl); (case kK => assumption); (case k1 => k_asm); (case k2 => k_asm); (case k3 => k_asm); (case k4 => k_asm); (case k5 => k_asm); (case k6 => k_is); (case k7 => k_is); (case k8 => ktr_room); (case k9 => first | exact BindsTo.of_eq rfl | exact binds_K (by k_in) rfl (by k_is) rfl rfl rfl | fail "k_enter: no rule for these arguments"); (case c5 => decide); (case kB => exact locs rfl); (case c2 => exact rfl); (case c3 => exact rfl); (case c4 => exact rfl); k_whole; intro g' L' h' FG' F' N' B' X' T'; (try dsimp only); (try k_lift B'); (try k_fold))
  dsimp only [b533, p533, s533] at *
  refine execsH_next ?_
  k_steps
  refine execsH_next ?_
  k_steps
  refine execsH_next ?_
  k_steps
  refine execsH_next ?_
  k_steps
  refine execsH_next ?_
  k_steps
  refine execsH_next ?_
  k_steps
  refine execsH_cons (AssignH1 (callNameH ?_))
  k_steps
  refine callH_one rfl (callNameH ?_)
  k_steps
  refine callH_one rfl (.of_any ?_)
  k_steps
  rename Fr _ _ _ _ => eF
  rename News _ _ _ _ => eN
  refine bytearrayK rfl (by dsimp only [ktrTop, Around.deeper]; omega) (by dsimp only [ktrTop, Around.deeper]; omega) (by rw [hK]; decide) eF eN ?_
  intro x8 h8 F8 N8
  clear eF eN
  refine .of_any ?_
  k_steps
  refine execsH_cons (IfH ?_)
  k_steps
  refine execsH_nil ?_
  dsimp only
  refine execsH_next ?_
  k_steps
  rename_i l9 F9 N9 _ _
  obtain ⟨_, _, _, _, _, _, a1, a2, a3, a4, a5⟩ := l9
  exact ret _ _ _ _ _ _ F9 (news_sub N9 drop6) ⟨a1, a2, a3, a4, a5⟩
end Mine
end
-- M9
section
open PySem PySem.W PySem.W.X PyProof.Rows PySem.Calls PySem.Spec
set_option Elab.async false
set_option maxRecDepth 100000
set_option maxHeartbeats 4000000
namespace Mine
theorem reset_M9 : True := by
  w_top off
  trivial
theorem warm9 : (PySem.Challenge.rw_ar0037_04 = PySem.Challenge.rw_ar0037_04) ∧ (∀ P, Kc P = Kc P) := by
  k_fill
  exact ⟨rfl, fun _ => rfl⟩

inductive Sig : Value → Array UInt8 → Prop
  | none : Sig .none sigB
  | some (u : Tok) : Sig (.bytes sigB u) #[]
theorem callWithH0 {prog : Program} {w : World} {A : Around} {E : Value → Shared → Prop} {s : Shared} {K : Frag} {f : Value} {first : List Value} {pos : Pos} {env : Env} {Q : Value → Shared → Prop} (hk : keepIn K f = true) (X : K.In s.heap) (h : wpH (model prog w) A (call f first) Q E s) :
    wpH (model prog w) A (callWith pos f first (backTo pos (starEach [] env)) []) Q E s :=
  callWithH rfl (show (0 : Nat) ≤ 30 by decide) (splicedH_nil ⟨keeps_K hk _ X, by rw [List.append_nil]; exact h⟩)
noncomputable abbrev crcOf (K D : Array UInt8) : Nat := crcFold (List.map UInt8.toNat D.toList) (crcFold (List.map UInt8.toNat K.toList) 0)
theorem vs_any {prog : Program} {w : World} {p : Program} {loose : List Str} {mean : ExcName → Option Value} {mg mb : Str → Option Value}
  {dp un : Nat} {gd : Option (List Code)} {cn : Str} {cs : Scope} {a : Addr} {ccd : Value} {cl : List (Str × Addr)} {outer : List Env} {A₀ : Around} {base h₀ : Heap} {L : Addr} {m : Str → Option Value} {s : Shared} {Q E : Value → Shared → Prop}
  {x dx r dr : Addr} {t tkO t1 t2 t3 t4 : Tok} {rest : List (Addr × Obj)}  {SG AT : Value} {pre C : Array UInt8}
  (B : Below A₀ base outer h₀) (F : Fr h₀ L s.heap m) (X : (Kc w.params).In h₀) (N : News h₀ L s.heap ((x, instObj 126 dx) :: (dx, octObj w.params (pre ++ C) t tkO) :: (r, instObj 651 dr) :: (dr, rdObj w.params SG AT x t1 t2 t3 t4) :: rest)) (T : Top p loose mean mg mb h₀) (hk : cs.kind = .function)
  (hne : @Ne Nat x dx) (hr : @Ne Nat r dr) (h1 : @Ne Nat r x) (h2 : @Ne Nat r dx) (h3 : @Ne Nat dr x) (h4 : @Ne Nat dr dx) (hoff : OwnOff rest [x, dx]) (hofr : OwnOff rest [r, dr])  (hd : dp ≤ 395) (hu : un ≤ 395) (hz : (pre ++ C).size ≤ 100000) (hs : Sig SG pre)
  (ret : ∀ h' tk' t' us, Fr h₀ L h' m → News h₀ L h' ((x, instObj 126 dx) :: (dx, octObj w.params (C) t' tkO) :: (r, instObj 651 dr) :: (dr, rdObj w.params (.bytes sigB us) AT x t1 t2 t3 t4) :: rest) → Q .none { s with heap := h', toks := tk' }) :
  wpAny (model prog w) (ktrTop dp un gd cn cs L a ccd cl outer) (call (.ref 518) [.ref r]) Q E s := by
  cases hs with
  | none => exact vs_read B F X N T hk hne hr h1 h2 h3 h4 hoff hofr hd hu hz ret
  | some u =>
    rw [Array.empty_append] at N
    exact vs_done B F X N T hk hne hr h1 h2 h3 h4 hoff hofr hd hu (fun h' tk' F' N' => ret h' tk' _ _ F' N')

local macro_rules | `(tactic| walk_at "call ref") => `(tactic| (k_here; (with_reducible show wpAny _ _ (call (Value.ref 90) [Value.ref _, Value.int _ _]) _ _ _); k_dflt (refine' read_pre ?B ?F ?X ?N ?T ?K ?ne ?off ?hd ?hu ?hz ?hp ?_; (case B => k_asm); (case F => k_asm); (case X => k_asm); (case N => k_asm); (case T => k_asm); (case K => exact rfl); (case ne => assumption); (case off => exact off2 (by assumption) (by assumption) (by assumption) (by assumption) (by assumption)); (case hd => (dsimp only [ktrTop, Around.deeper]; omega)); (case hu => (dsimp only [ktrTop, Around.deeper]; omega)); (case hz => assumption); (case hp => first | rfl | assumption); k_whole); intro h' k' u' t' F' N'))

local macro_rules | `(tactic| walk_at "call ref") => `(tactic| (k_here; (show wpAny _ _ (call (Value.ref 518) [Value.ref _]) _ _ _); k_dflt (refine' vs_any ?B ?F ?X ?N ?T ?K ?hne ?hr ?h1 ?h2 ?h3 ?h4 ?hoff ?hofr ?hd ?hu ?hz ?hsig ?_; (case B => k_asm); (case F => k_asm); (case X => k_asm); (case N => k_asm); (case T => k_asm); (case K => exact rfl); (case hne => assumption); (case hr => assumption); (case h1 => assumption); (case h2 => assumption); (case h3 => assumption); (case h4 => assumption); (case hoff => assumption); (case hofr => assumption); (case hd => (dsimp only [ktrTop, Around.deeper]; omega)); (case hu => (dsimp only [ktrTop, Around.deeper]; omega)); (case hz => assumption); (case hsig => assumption); k_whole); intro h' k' t' us' F' N'))

local macro_rules | `(tactic| walk_at "call ref") => `(tactic| (k_here; (with_reducible show wpAny _ _ (call (Value.ref 145) [Value.ref 169, Value.bytes _ _]) _ _ _); k_dflt (refine' crc1_spec ?B ?F ?X ?N ?T ?K ?hd ?hu ?sz ?_; (case B => k_asm); (case F => k_asm); (case X => k_asm); (case N => k_asm); (case T => k_asm); (case K => exact rfl); (case hd => (dsimp only [ktrTop, Around.deeper]; omega)); (case hu => (dsimp only [ktrTop, Around.deeper]; omega)); (case sz => omega); k_whole); intro h' k' t' F' N'))
local macro_rules | `(tactic| walk_at "call ref") => `(tactic| (k_here; (with_reducible show wpAny _ _ (call (Value.ref 145) [Value.ref 169, Value.bytes _ _, Value.int _ _]) _ _ _); k_dflt (refine' crc2_spec ?B ?F ?X ?N ?T ?K ?hd ?hu ?sz ?v ?_; (case B => k_asm); (case F => k_asm); (case X => k_asm); (case N => k_asm); (case T => k_asm); (case K => exact rfl); (case hd => (dsimp only [ktrTop, Around.deeper]; omega)); (case hu => (dsimp only [ktrTop, Around.deeper]; omega)); (case sz => first | omega | decide); (case v => exact crcFold_lt _ octs_lt (by decide)); k_whole); intro h' k' t' F' N'))
local macro_rules | `(tactic| walk_at "call builtin:_struct.pack") => `(tactic| (k_here; k_dflt (refine' pack_nat (rfl : _ = ((_ : Nat) : Int)) ?b ?_; (case b => exact crcFold_lt _ octs_lt (crcFold_lt _ octs_lt (by decide))); k_whole); intro t' k'))

local macro_rules | `(tactic| walk_at "call builtin:len") => `(tactic| (k_here; (with_reducible show wpAny _ _ (call (Value.builtin "len") [Value.bytes _ _]) _ _ _); k_dflt (refine' len_is ?z ?y ?_; (case z => assumption); (case y => omega); k_whole); intro t' k'))

theorem ne_no {prog : Program} {w : World} {A : Around} {E : Value → Shared → Prop} {s : Shared} {a b : Int} {t u : Tok} {Q : Value → Shared → Prop} (h : a = b) (hQ : Q (.bool false) s) : wpAny (model prog w) A (compareOp .NotEq (.int a t) (.int b u)) Q E s := PyProof.Rows.ne_int (by rw [h, bne_self_eq_false]; exact hQ)
theorem neb_no {prog : Program} {w : World} {A : Around} {E : Value → Shared → Prop} {s : Shared} {a b : Array UInt8} {t u : Tok} {Q : Value → Shared → Prop} (h : a = b) (hQ : Q (.bool false) s) : wpAny (model prog w) A (compareOp .NotEq (.bytes a t) (.bytes b u)) Q E s := ne_bytes (by rw [h, bne_self_eq_false]; exact hQ)
local macro_rules | `(tactic| walk_at "compareOp NotEq int int") => `(tactic| (k_here; refine ne_no rfl ?_))
local macro_rules | `(tactic| walk_at "compareOp NotEq bytes bytes") => `(tactic| (k_here; refine neb_no (by assumption) ?_))
theorem chunk_spec {prog : Program} {w : World} {p : Program} {loose : List Str} {mean : ExcName → Option Value} {mg mb : Str → Option Value}
  {dp un : Nat} {gd : Option (List Code)} {cn : Str} {cs : Scope} {a : Addr} {ccd : Value} {cl : List (Str × Addr)} {outer : List Env} {A₀ : Around} {base h₀ : Heap} {L : Addr} {m : Str → Option Value} {s : Shared} {Q E : Value → Shared → Prop}
  {x dx r dr : Addr} {t tkO t1 t2 t3 t4 : Tok} {rest : List (Addr × Obj)} {X8 R K D CK : Array UInt8} {SG : Value} {pre : Array UInt8}
  (B : Below A₀ base outer h₀) (F : Fr h₀ L s.heap m) (X : (Kc w.params).In h₀) (N : News h₀ L s.heap ((x, instObj 126 dx) :: (dx, octObj w.params (pre ++ (X8 ++ (D ++ (CK ++ R)))) t tkO) :: (r, instObj 651 dr) :: (dr, rdObj w.params SG .none x t1 t2 t3 t4) :: rest)) (T : Top p loose mean mg mb h₀) (hk : cs.kind = .function)
  (hne : @Ne Nat x dx) (hr : @Ne Nat r dr) (h1 : @Ne Nat r x) (h2 : @Ne Nat r dx) (h3 : @Ne Nat dr x) (h4 : @Ne Nat dr dx) (hoff : OwnOff rest [x, dx]) (hofr : OwnOff rest [r, dr]) (hd : dp ≤ 380) (hu : un ≤ 360) (hz : (pre ++ (X8 ++ (D ++ (CK ++ R)))).size ≤ 100000) (hs : Sig SG pre) (hX8 : X8.size = 8) (hX : X8 = (be4 D.size).toArray ++ K) (hK : K.size = 4) (hD : D.size ≤ 1000) (hCK : CK = (be4 (crcOf K D)).toArray) (hlet : ∀ k, (octInts K).any (· == k) = true → letters k = true)
  (ret : ∀ y h' tk' t' us u1 u2, Fr h₀ L h' m → News h₀ L h' ((y, tupObj [.bytes K u1, .bytes D u2] 0) :: (x, instObj 126 dx) :: (dx, octObj w.params (R) t' tkO) :: (r, instObj 651 dr) :: (dr, rdObj w.params (.bytes sigB us) .none x t1 t2 t3 t4) :: rest) → (x < y ∧ dx < y ∧ r < y ∧ dr < y ∧ AllLt y rest) → Q (.ref y) { s with heap := h', toks := tk' }) :
  wpH (model prog w) (ktrTop dp un gd cn cs L a ccd cl outer) (call (.ref 470) [.ref r]) Q E s := by
  refine wpH_call ?_
  k_dflt (refine' code_defH ?k1 ?k2 ?k3 ?k4 ?k5 ?kA ?kF ?kK ?k6 ?k7 ?k8 ?k9 ?kB ?_ ?c2 ?c3 ?c4 ?c5; (case kA => exact rfl); (case kF => exact rfl); (case kK => assumption); (case k1 => k_asm); (case k2 => k_asm); (case k3 => k_asm); (case k4 => k_asm); (case k5 => k_asm); (case k6 => k_is); (case k7 => k_is); (case k8 => ktr_room); (case k9 => first | exact BindsTo.of_eq rfl | exact binds_K (by k_in) rfl (by k_is) rfl rfl rfl | fail "k_enter: no rule for these arguments"); (case c5 => decide); (case kB => exact locs rfl); (case c2 => exact rfl); (case c3 => exact rfl); (case c4 => exact rfl); k_whole; intro g' L' h' FG' F' N' B' X' T'; (try dsimp only); (try k_lift B'); (try k_fold))
  dsimp only [b470, p470, s470] at *
  have hz1 : (X8 ++ (D ++ (CK ++ R))).size ≤ 100000 := by simp only [Array.size_append] at hz ⊢; omega
  have hz2 : (D ++ (CK ++ R)).size ≤ 100000 := by simp only [Array.size_append] at hz ⊢; omega
  have hz3 : (CK ++ R).size ≤ 100000 := by simp only [Array.size_append] at hz ⊢; omega
  have hCK4 : CK.size = 4 := by rw [hCK]; rfl
  have hDs : D.size = D.size := rfl
  refine execsH_next ?_
  k_steps
  refine execsH_next ?_
  k_steps
  refine execsH_cons (IfH ?_)
  k_steps
  refine execsH_cons (AssignH1 (methodCallH ?_))
  k_steps
  rename Fr _ _ _ _ => eF
  rename News _ _ _ _ => eN
  refine callWithH0 (K := Kc w.params) (by k_is) (X'.keeps eF.keep) ?_
  k_dflt (refine' clt_spec ?B ?F ?X ?N ?T ?K ?hne ?hr ?h1 ?h2 ?h3 ?h4 ?hoff ?hofr ?hd ?hu ?hz ?e1 ?e2 ?e3 ?e4 ?e5 ?_; (case B => k_asm); (case F => k_asm); (case X => k_asm); (case N => k_asm); (case T => k_asm); (case K => exact rfl); (case hne => assumption); (case hr => assumption); (case h1 => assumption); (case h2 => assumption); (case h3 => assumption); (case h4 => assumption); (case hoff => assumption); (case hofr => assumption); (case hd => (dsimp only [ktrTop, Around.deeper]; omega)); (case hu => (dsimp only [ktrTop, Around.deeper]; omega)); (case hz => assumption); (case e1 => assumption); (case e2 => assumption); (case e3 => assumption); (case e4 => omega); (case e5 => assumption); k_whole)
  intro x9 h9 k9 t9 v1 v2 F9 N9 l9
  clear eF eN
  obtain ⟨a1, a2, a3, a4, a5⟩ := l9
  have b1 := ltN a1
  have b2 := ltN a2
  have b3 := ltN a3
  have b4 := ltN a4
  k_steps
  refine execsH_nil ?_
  dsimp only
  refine execsH_next ?_
  k_steps
  refine execsH_next ?_
  k_steps
  refine execsH_next ?_
  k_steps
  dsimp only
  rename Fr _ _ _ _ => eF
  rename News _ _ _ _ => eN
  have eN2 := news_sub eN (fun _ h => List.Mem.tail _ h)
  clear eN
  refine .of_any ?_
  k_steps
  rename_i l9 F9 N9 _ _
  exact ret _ _ _ _ _ _ _ F9 N9 l9
end Mine
end
-- M10
section
open PySem PySem.W PySem.W.X PyProof.Rows PySem.Calls PySem.Spec
set_option Elab.async false
set_option maxRecDepth 100000
set_option maxHeartbeats 4000000
namespace Mine
theorem reset_M10 : True := by
  w_top off
  trivial
theorem warm10 : (PySem.Challenge.rw_ar0037_04 = PySem.Challenge.rw_ar0037_04) ∧ (∀ P, Kc P = Kc P) := by
  k_fill
  exact ⟨rfl, fun _ => rfl⟩

local macro_rules | `(tactic| walk_at "call ref") => `(tactic| (k_here; (show wpAny _ _ (call (Value.ref 518) [Value.ref _]) _ _ _); k_dflt (refine' vs_eof ?B ?F ?X ?N ?T ?K ?hne ?hr ?h1 ?h2 ?h3 ?h4 ?hoff ?hofr ?hd ?hu ?_; (case B => k_asm); (case F => k_asm); (case X => k_asm); (case N => k_asm); (case T => k_asm); (case K => exact rfl); (case hne => assumption); (case hr => assumption); (case h1 => assumption); (case h2 => assumption); (case h3 => assumption); (case h4 => assumption); (case hoff => assumption); (case hofr => assumption); (case hd => (dsimp only [ktrTop, Around.deeper]; omega)); (case hu => (dsimp only [ktrTop, Around.deeper]; omega)); k_whole); intro e' t' vs' nw' h' tk' g' F' U' R'))
theorem chunk_eof {prog : Program} {w : World} {p : Program} {loose : List Str} {mean : ExcName → Option Value} {mg mb : Str → Option Value}
  {dp un : Nat} {gd : Option (List Code)} {cn : Str} {cs : Scope} {a : Addr} {ccd : Value} {cl : List (Str × Addr)} {outer : List Env} {A₀ : Around} {base h₀ : Heap} {L : Addr} {m : Str → Option Value} {s : Shared} {Q E : Value → Shared → Prop}
  {x dx r dr : Addr} {t tkO t1 t2 t3 t4 : Tok} {rest : List (Addr × Obj)} {AT : Value}
  (B : Below A₀ base outer h₀) (F : Fr h₀ L s.heap m) (X : (Kc w.params).In h₀) (N : News h₀ L s.heap ((x, instObj 126 dx) :: (dx, octObj w.params (#[]) t tkO) :: (r, instObj 651 dr) :: (dr, rdObj w.params .none AT x t1 t2 t3 t4) :: rest)) (T : Top p loose mean mg mb h₀) (hk : cs.kind = .function)
  (hne : @Ne Nat x dx) (hr : @Ne Nat r dr) (h1 : @Ne Nat r x) (h2 : @Ne Nat r dx) (h3 : @Ne Nat dr x) (h4 : @Ne Nat dr dx) (hoff : OwnOff rest [x, dx]) (hofr : OwnOff rest [r, dr]) (hd : dp ≤ 380) (hu : un ≤ 360)
  (exc : ∀ e t vs news' h' tk' g, Fr h₀ L g m → g.UpToSlots h' → RaisedK base (envX cn cs L a ccd cl :: outer) e (.type "EOFError") t vs news' h' → E (.ref e) { s with heap := h', toks := tk' }) :
  wpAny (model prog w) (ktrTop dp un gd cn cs L a ccd cl outer) (call (.ref 470) [.ref r]) Q E s := by
  refine wpAny_call ?_
  k_dflt (refine' code_def ?k1 ?k2 ?k3 ?k4 ?k5 ?kA ?kF ?kK ?k6 ?k7 ?k8 ?k9 ?kB ?_ ?c2 ?c3 ?c4 ?c5; (case kA => exact rfl); (case kF => exact rfl); (case kK => assumption); (case k1 => k_asm); (case k2 => k_asm); (case k3 => k_asm); (case k4 => k_asm); (case k5 => k_asm); (case k6 => k_is); (case k7 => k_is); (case k8 => ktr_room); (case k9 => first | exact BindsTo.of_eq rfl | exact binds_K (by k_in) rfl (by k_is) rfl rfl rfl | fail "k_enter: no rule for these arguments"); (case c5 => decide); (case kB => exact locs rfl); (case c2 => exact rfl); (case c3 => exact rfl); (case c4 => exact rfl); k_whole; intro g' L' h' FG' F' N' B' X' T'; (try dsimp only); (try k_lift B'); (try k_fold))
  dsimp only [b470, p470, s470] at *
  k_steps
  exact exc _ _ _ _ _ _ _ FG' (by assumption) (by assumption)
end Mine
end
-- G1
section
open PySem PySem.W PySem.W.X PyProof.Rows PySem.Calls PySem.Spec
set_option Elab.async false
set_option maxRecDepth 100000
set_option maxHeartbeats 4000000
namespace Mine
/-- a piece of a generator's run, over the stacks without a holder -/
noncomputable def SegH (M : Model) (A : Around) (c : Code) (t : Sem Fin) (fs : List Frame) (s : Shared) (P : End → Shared → Prop) : Prop :=
  ∀ Γ p, Γ.code = c → Γ.Woken A → Hm Γ.below → ∃ e s', Runs M Γ p t fs s e s' ∧ e.quiet = true ∧ P e s'
section
variable {M : Model} {A : Around} {c : Code} {fs : List Frame} {s : Shared} {P : End → Shared → Prop}
theorem SegH.mono {t : Sem Fin} {P' : End → Shared → Prop} (x : SegH M A c t fs s P) (h : ∀ e s', P e s' → P' e s') : SegH M A c t fs s P' := fun Γ p hc hΓ hm => by
  obtain ⟨e, s', hr, hq, hp⟩ := x Γ p hc hΓ hm
  exact ⟨e, s', hr, hq, h e s' hp⟩
theorem segH_wrap {α : Type} {m : Sem α} {K : α → Sem Fin} {H : Value → Sem Fin} {gd lv} (hc : holder c = false) (hf : Hm (fs.map Frame.where_))
    (h : wpH M (A.over c fs) m (fun a s' => SegH M A c (K a) fs s' P) (fun x s' => SegH M A c (H x) fs s' P) s) : SegH M A c (m.wrap K H gd lv) fs s P := by
  rintro Γ p rfl hΓ hm
  exact runs_wrap_of_wp (Φ := fun e s' => e.quiet = true ∧ P e s') K H gd lv m (h (Γ.over fs) p (hΓ.over fs) hc (Hm.append hf hm)) (fun a p' s' h' => h' Γ p' rfl hΓ hm) (fun x p' s' h' => h' Γ p' rfl hΓ hm)
theorem segH_at {p' : Pos} {k : Unit → Sem Fin} (hc : holder c = false) (hf : Hm (fs.map Frame.where_)) (h : SegH M A c (k ()) fs s P) : SegH M A c (.at p' k) fs s P :=
  segH_wrap (m := standAt p') (K := k) (H := .raise) (gd := id) (lv := id) hc hf (wpH_standAt h)
theorem segH_point {l : List Value} {k : Unit → Sem Fin} (hc : holder c = false) (hf : Hm (fs.map Frame.where_)) (h : SegH M A c (k ()) fs s P) : SegH M A c (.point l k) fs s P :=
  segH_wrap (m := point) (K := k) (H := .raise) (gd := id) (lv := fun _ => l) hc hf (wpH_point h)
theorem segH_call {c' : Code} {h g l} {k : Result → Sem Fin} (x : ∀ p, SegH M A c' (M.den c') (.ret k h g l c p [] :: fs) s P) : SegH M A c (.call c' h g l k) fs s P := by
  rintro Γ p rfl hΓ hm
  obtain ⟨e, s', hr, he⟩ := x p (Γ.goto c') p rfl (hΓ.goto c') hm
  exact ⟨e, s', runs_call_seg hr, he⟩
theorem segH_leaf {k h g l c₁ p₁ kp} (r : Result) (x : SegH M A c₁ (k r) fs s P) : SegH M A c (leafOf r) (.ret k h g l c₁ p₁ kp :: fs) s P := by
  rintro Γ p rfl hΓ hm
  obtain ⟨e, s', hr, he⟩ := x (Γ.goto c₁) p₁ rfl (hΓ.goto c₁) hm
  exact ⟨e, s', Runs.pop r hr, he⟩
theorem segH_again {c' : Code} (hq : c'.quiet = true) (x : SegH M A c' (M.den c') fs s P) : SegH M A c (.pure (.again c')) fs s P := by
  rintro Γ p rfl hΓ hm
  obtain ⟨e, s', hr, he⟩ := x (Γ.goto c') p rfl (hΓ.goto c') hm
  exact ⟨e, s', Runs.head (c₁ := c') (fun _ _ y => .again hq y) hr, he⟩
theorem segH_end (r : Result) (x : P (.ret r) s) : SegH M A c (leafOf r) [] s P := by
  rintro Γ p rfl _ _
  exact ⟨.ret r, s, Runs.leaf r, rfl, x⟩
theorem segH_yield {v l} {k : Resume → Sem Fin} (hfs : splitAtGen fs = none) (hfg : fs.any Frame.guarded = false) (x : ∀ p, P (.susp v false l k c p fs) s) : SegH M A c (.yield v false l k) fs s P := by
  rintro Γ p rfl _ _
  exact ⟨_, s, Runs.yield' fs hfs, by simp [End.quiet, hfg], x p⟩
theorem segH_execs_cons {env : Env} {st : Stmt} {rest : List Stmt} {K : Flow → Sem Fin} {H : Value → Sem Fin} {gd lv}
    (h : SegH M A c ((exec st env).wrap (fun f => match f with | .next => (execs rest env).wrap K H gd lv | f => K f) H gd lv) fs s P) :
    SegH M A c ((execs (st :: rest) env).wrap K H gd lv) fs s P := by rw [execs_cons_wrap]; exact h
theorem segH_While {env : Env} {test : Expr} {body orelse : List Stmt} {pos : Pos} {K : Flow → Sem Fin} {H : Value → Sem Fin} {gd lv} (hc : holder c = false) (hf : Hm (fs.map Frame.where_))
    (h : ∀ p, SegH M A (.whileLoop test body orelse env) (M.den (.whileLoop test body orelse env))
      (.ret (fun r => ((match r with | .ok f => (.pure f : Sem Flow) | .error e => .raise e).onRaise fun (x : Value) => do
        if (← field x 1) == Value.none then unsupported "frame.own-activation:exception-without-traceback"
        setFlight x env.frame).wrap K H gd lv) none (gd false) (lv []) c p [] :: fs) s P) :
    SegH M A c ((exec (.While test body orelse pos) env).wrap K H gd lv) fs s P :=
  segH_at hc hf (segH_call h)
/-- what a suspended generator does when woken goes on as K .next does -/
noncomputable def Wakes1 (M : Model) (k : Resume → Sem Fin) (c : Code) (t : Sem Fin) (fs : List Frame) : Prop :=
  ∀ A s P, SegH M A c t fs s P → SegH M A c (k (.send .none)) fs s P
theorem segH_Yield {env : Env} {e : Expr} {ypos pos : Pos} {K : Flow → Sem Fin} {H : Value → Sem Fin} {gd lv} (hc : holder c = false) (hf : Hm (fs.map Frame.where_)) (hfs : splitAtGen fs = none) (hgd : gd false = false) (hfg : fs.any Frame.guarded = false)
    (h : wpH M (A.over c fs) (eval e env) (fun v s' => ∀ l k p, Wakes1 M k c (K .next) fs → P (.susp v false l k c p fs) s')
      (fun x s' => SegH M A c (H x) fs s' P) s) (hco : env.scope.isCoroutine = false := by rfl) (hi : interactive env = false := by rfl) :
    SegH M A c ((exec (.Expr (.Yield (some e) ypos) pos) env).wrap K H gd lv) fs s P := by
  rw [exec_Expr env _ pos hi rfl]
  show SegH M A c (.at pos fun _ => ((eval e env >>= fun v => (standAt ypos >>= fun _ => yieldOut env v)) >>= fun x =>
    dropValue (.Yield (some e) ypos) pos x).wrap K H gd lv) fs s P
  have hy : ∀ v, yieldOut env v = yieldValue v := fun v => by simp only [yieldOut, hco, Bool.false_eq_true, if_false]
  simp only [hy]
  refine segH_at hc hf ?_
  rw [Sem.bind_eq_wrap', Sem.bind_eq_wrap', Sem.wrap_wrap, Sem.wrap_wrap]
  refine segH_wrap hc hf (wpH_mono h (fun v s' h' => ?_) fun _ _ x => x)
  refine segH_at hc hf ?_
  have hgd' : gd (id (id false)) = false := hgd
  show SegH M A c (.yield v (gd (id (id false))) _ _) fs s' P
  rw [hgd']
  refine segH_yield hfs hfg fun p => h' _ _ p ?_
  intro A' s₁ P' hx
  exact hx
end
section
variable {prog : Program} {w : World} {A : Around} {fs : List Frame} {s : Shared} {env : Env} {P : End → Shared → Prop}
noncomputable abbrev KW (test : Expr) (body orelse : List Stmt) (env : Env) : Flow → Sem Fin := fun f => match f with
            | .next | .cont => .pure (.again (.whileLoop test body orelse env))
            | .brk => .pure (.done .next)
            | .ret v => .pure (.done (.ret v))
noncomputable abbrev HW (env : Env) : Value → Sem Fin := fun e => (do noteFrame e env; theTreesLotGoes e : Sem Unit).wrap (fun _ => .raise e) .raise id id
theorem segH_whileLoop {test : Expr} {body orelse : List Stmt} (hf : Hm (fs.map Frame.where_))
    (h : wpH (model prog w) (A.over (.whileLoop test body orelse env) fs) (isTrue test env (eval test env)) (fun b s' =>
        b = true ∧ SegH (model prog w) A (.whileLoop test body orelse env) ((execs body env).wrap (KW test body orelse env) (HW env) id id) fs s' P)
      (fun x s' => SegH (model prog w) A (.whileLoop test body orelse env) (HW env x) fs s' P) s) :
    SegH (model prog w) A (.whileLoop test body orelse env) ((model prog w).den (.whileLoop test body orelse env)) fs s P := by
  show SegH _ A _ ((whileTurn test body orelse env).onRaise (fun x => do noteFrame x env; theTreesLotGoes x)) fs s P
  unfold whileTurn
  rw [Sem.onRaise_eq_wrap, Sem.bind_eq_wrap', Sem.wrap_wrap]
  refine segH_wrap rfl hf (wpH_mono h (fun b s' hb => ?_) fun x s' hx => ?_)
  · obtain ⟨rfl, hb⟩ := hb
    show SegH _ A _ (Sem.wrap _ _ _ _ (if true = true then _ else _)) fs s' P
    rw [if_pos rfl, Sem.bind_eq_wrap', Sem.wrap_wrap]
    rw [Sem.wrap_congr (execs body env) _ _ (K' := KW test body orelse env) (H' := HW env)
        (fun f => by cases f <;> rfl)
        (fun e => by first | exact Sem.bind_eq_wrap _ _ | (show (do noteFrame e env; theTreesLotGoes e : Sem Unit).bind (fun _ => .raise e) = _; rw [Sem.bind_eq_wrap]))]
    exact hb
  · first
      | (rw [← Sem.bind_eq_wrap] at hx; exact hx)
      | (show SegH _ A _ ((do noteFrame x env; theTreesLotGoes x : Sem Unit).bind fun _ => .raise x) fs s' P; rw [Sem.bind_eq_wrap]; exact hx)
noncomputable abbrev KF : Flow → Sem Fin := fun f => .pure (.done (.ret (match f with | .ret v => v | _ => .none)))
noncomputable abbrev HF (env : Env) : Value → Sem Fin := fun e => (leaving env e).wrap (fun _ => .raise e) .raise id id
theorem segH_func {body : List Stmt} (hf : Hm (fs.map Frame.where_))
    (h : SegH (model prog w) A (.func body env) ((execs body env).wrap KF (HF env) id id) fs s P) :
    SegH (model prog w) A (.func body env) ((model prog w).den (.func body env)) fs s P := by
  show SegH _ A _ (.point [] fun _ => ((execs body env).onRaise (leaving env)) >>= _) fs s P
  refine segH_point rfl hf ?_
  rw [Sem.onRaise_eq_wrap, Sem.bind_eq_wrap', Sem.wrap_wrap]
  rw [Sem.wrap_congr (execs body env) _ _ (K' := KF)
    (H' := HF env) (fun f => by cases f <;> rfl)
    (fun e => by rw [Sem.bind_eq_wrap, Sem.wrap_wrap]; rfl)]
  exact h
end
section
variable {α : Type} {M : Model} {A : Around} {E : Value → Shared → Prop} {s : Shared}
/-- the tree that a generator goes on with -/
noncomputable def GoesH (M : Model) (A : Around) (gs : GenState) (s : Shared) (P : End → Shared → Prop) : Prop :=
  match gs with
  | .fresh c => SegH M A c (M.den c) [] s P
  | .suspended k _ c _ fs _ => SegH M A c (k (.send .none)) fs s P
  | _ => False
theorem wpH_resume {Q : α → Shared → Prop} {g : Nat} {gs : GenState} {l : List Value} {k : GenResult → Sem α} (hg : s.gens[g]? = some gs)
    (x : GoesH M A gs (s.setGen g .running) (fun e s₁ => wpH M A (k e.result) Q E (s₁.setGen g e.genState))) : wpH M A (.resume g (.send .none) l k) Q E s := by
  intro Γ p hΓ h1 h2
  rw [Sem.wp_resume]
  cases gs with
  | fresh c =>
    obtain ⟨e₁, s₁, hr, hqt, he⟩ := x (Γ.wake c p) p rfl (hΓ.wake c p) (Hm.cons h1 h2)
    exact ⟨_, _, by unfold Wakes; rw [hg]; exact ⟨e₁, s₁, hr, hqt, rfl, rfl⟩, he Γ p hΓ h1 h2⟩
  | suspended k₀ l₀ c₀ p₀ fs₀ cl =>
    obtain ⟨e₁, s₁, hr, hqt, he⟩ := x (Γ.wake c₀ p) p₀ rfl (hΓ.wake c₀ p) (Hm.cons h1 h2)
    exact ⟨_, _, by unfold Wakes; rw [hg]; exact ⟨e₁, s₁, hr, hqt, rfl, rfl⟩, he Γ p hΓ h1 h2⟩
  | running => exact x.elim
  | finished => exact x.elim
theorem wpH_attempt {m : Sem α} {Q : Except Value α → Shared → Prop} (h : wpH M A m (fun a => Q (.ok a)) (fun e => Q (.error e)) s) : wpH M A m.attempt Q E s :=
  fun Γ p hΓ h1 h2 => by rw [Sem.wp_attempt]; exact h Γ p hΓ h1 h2
end
section
variable {prog : Program} {w : World} {A : Around} {E : Value → Shared → Prop} {s : Shared}
/-- next(generator), over the stacks without a holder -/
theorem pyNextH_gen {a : Addr} {g : Nat} {gs : GenState} {Q : Option Value → Shared → Prop} (hh : A.handled = none) (hl : s.heap.NoLimit) (hroom : A.depth < recursionLimit) (hg : s.heap.IsGen a g) (hgs : s.gens[g]? = some gs)
    (hgo : GoesH (model prog w) A.in1 gs (s.setGen g .running) (fun e s₁ => match e with
      | .ret r => r = .ok (.ret .none) ∧ ∀ h', (∀ b o, s₁.heap.get? b = some o → h'.get? b = some o) → Q none { s₁.setGen g .finished with heap := h' }
      | .susp v g₀ l k c p fs => Q (some v) (s₁.setGen g (End.susp v g₀ l k c p fs).genState))) :
    wpH (model prog w) A (pyNext (.ref a)) Q E s := by
  unfold pyNext
  refine wpH_bind (wpH_attempt ?_)
  unfold callSpecial?
  refine wpH_bind (.of_any (wpAny_specialOf hg.typeIs (slot_gen_next).lookup ?_))
  simp only [slot_gen_next.bind]
  refine wpH_holding (wpH_bind (wpH_pure (wpH_bind ?_)))
  refine wpH_call (codeH_of_tree rfl ?_)
  show wpH _ A.in1 (do checkBuiltinCall "generator.__next__" ⟨[.ref a], []⟩; again (.builtin "generator.__next__" ⟨[.ref a], []⟩)) _ _ _
  refine wpH_bind (.of_any (slot_gen_next.check _ _ _ _ _ _ _ _ hg.typeIs (args_gen_next _) ?_))
  refine wpH_pure ⟨plainId_quiet slot_gen_next.plain _, codeH_builtin entry_gen_next (by simp only [holder]; decide) ?_⟩
  rw [Around.under_plainId slot_gen_next.plain]
  show wpH _ A.in1 (Builtin.Generator.genWake (.ref a) (.send .none)) _ _ s
  unfold Builtin.Generator.genWake
  refine wpH_bind (wpH_holding (.of_any (wpAny_genNumber hg ?_)))
  refine wpH_bind (.of_any (wpAny_genState hgs ?_))
  cases gs with
  | running => exact hgo.elim
  | finished => exact hgo.elim
  | _ =>
    refine wpH_bind (.of_any (wpAny_roomToWake hl hroom ?_))
    show wpH _ A.in1 (.resume g (.send .none) [] _) _ _ s
    refine wpH_resume hgs ?_
    refine SegH.mono hgo fun e s₁ he => ?_
    cases e with
    | ret r =>
      obtain ⟨rfl, hp⟩ := he
      refine .of_any ?_
      show wpAny _ A.in1 (newExc (.type "StopIteration") [] >>= _) _ _ _
      refine wpAny_bind ?_
      simp only [newExc, newTuple]
      refine wpAny_bind (wpAny_newObj_type ?_ (by size_fits))
      refine wpAny_bind (m := firstArgMember _ _) (wpAny_of_eq (a := Value.none) (by first | rfl | (simp only [firstArgMember]; rfl)) ?_)
      refine wpAny_newObj_type ?_ (by size_fits)
      simp only [raiseNew]
      refine wpAny_bind (wpAny_bind (wpAny_handled ?_))
      rw [show A.in1.handled = none from hh]
      refine wpAny_throw ?_
      refine wpH_bind (.of_any (wpAny_isInstance (T := "StopIteration") (b := true) ⟨_, Heap.get?_push_size _ rfl, rfl⟩ isSubtype_stop ?_))
      exact wpH_pure (hp _ fun b o hb => Heap.get?_push_of_some _ (Heap.get?_push_of_some _ hb))
    | susp v g₀ l k c p fs =>
      exact wpH_pure (wpH_pure (wpH_pure he))
end
end Mine
end
-- G2
section
open PySem PySem.W PySem.W.X PyProof.Rows PySem.Calls PySem.Spec
set_option Elab.async false
set_option maxRecDepth 100000
set_option maxHeartbeats 4000000
namespace Mine
/-- an object that is a namespace -/
noncomputable def NsO (o : Obj) (m : Str → Option Value) : Prop := ∃ es ep, o.data = .dict es ep ∧ StrKeys es ∧ ∀ name, nsFind es name = m name
theorem NsO.ns {h : Heap} {a : Addr} {o : Obj} {m : Str → Option Value} (x : NsO o m) (ho : h.get? a = some o) : h.Ns a m := by
  obtain ⟨es, ep, h1, h2, h3⟩ := x
  exact ⟨o, es, ep, ho, h1, h2, h3⟩
theorem nsO_of {h : Heap} {a : Addr} {m : Str → Option Value} (x : h.Ns a m) : ∃ o, h.get? a = some o ∧ NsO o m := by
  obtain ⟨o, es, ep, ho, h1, h2, h3⟩ := x
  exact ⟨o, ho, es, ep, h1, h2, h3⟩
noncomputable def deadO : Obj := ⟨.none, none, .freed, #[]⟩
/-- the heap of h₀'s objects and of the one at L -/
noncomputable def keepOf (h₀ : Heap) (L : Nat) (o : Obj) : Heap := ⟨Array.ofFn (n := L + 1) fun i => if i.1 = L then o else match h₀.get? i.1 with | some x => x | none => deadO, {}⟩
theorem keepOf_size (h₀ : Heap) (L : Nat) (o : Obj) : (keepOf h₀ L o).objs.size = L + 1 := by simp [keepOf]
theorem get_live {h : Heap} {a : Addr} {o : Obj} (e : h.get? a = some o) : o.data ≠ .freed := by
  intro hd
  unfold Heap.get? at e
  split at e
  · cases e
  · rename_i x hx
    obtain ⟨c, d, dt, sl⟩ := o
    subst hd
    exact hx c d sl e
theorem get_of_slot {h : Heap} {a : Nat} {o : Obj} (e : h.objs[a]? = some o) (hf : o.data ≠ .freed) : h.get? a = some o := by
  unfold Heap.get?
  rw [e]
  obtain ⟨c, d, dt, sl⟩ := o
  cases dt <;> first | rfl | exact absurd rfl hf
theorem keepOf_L {h₀ : Heap} {L : Nat} {o : Obj} (hf : o.data ≠ .freed) : (keepOf h₀ L o).get? L = some o := by
  refine get_of_slot ?_ hf
  simp [keepOf]
theorem keepOf_old {h₀ : Heap} {L a : Nat} {o x : Obj} (hs : h₀.objs.size ≤ L) (e : h₀.get? a = some x) : (keepOf h₀ L o).get? a = some x := by
  have hl : a < L := Nat.lt_of_lt_of_le (Heap.lt_size e) hs
  refine get_of_slot ?_ (get_live e)
  have h1 : a < L + 1 := by omega
  have h2 : a ≠ L := by omega
  simp [keepOf, h1, h2, e]
theorem of_keepOf {h₀ : Heap} {L a : Nat} {o x : Obj} (e : (keepOf h₀ L o).get? a = some x) : (a = L ∧ x = o) ∨ h₀.get? a = some x := by
  have hl : a < L + 1 := by have := Heap.lt_size e; rwa [keepOf_size] at this
  have hlive := get_live e
  have hx : (keepOf h₀ L o).objs[a]? = some x := by
    unfold Heap.get? at e
    split at e
    · cases e
    · exact e
  simp only [keepOf, Array.getElem?_ofFn, hl, dite_true, Option.some.injEq] at hx
  by_cases ha : a = L
  · rw [if_pos ha] at hx; exact .inl ⟨ha, hx.symm⟩
  · rw [if_neg ha] at hx
    right
    cases q : h₀.get? a with
    | some y => rw [q] at hx; rw [← hx]
    | none => rw [q] at hx; rw [← hx] at hlive; exact absurd rfl hlive
section
variable {A₀ A : Around} {base h₀ h : Heap} {outer : List Env} {L Lg : Addr} {m mg : Str → Option Value} {env : Env} {news : List (Addr × Obj)} {og : Obj}
/-- the ledger of a woken generator, and the way back -/
theorem ground_gen (B : Below A₀ base outer h₀) (F : Fr h₀ L h m) (N : News h₀ L h ((Lg, og) :: news)) (hA : A.frames = some (env :: outer)) (hf : env.frame = some L) (hke : env.scope.kind = .function)
    (ng : NsO og mg) (hlt : @LT.lt Nat _ L Lg) (hap : ∀ p ∈ news, p.1 ≠ Lg) :
    ∃ g, Fr h₀ L g m ∧ Fr g Lg h mg ∧ News g Lg h news ∧ Below A base (env :: outer) g ∧ h₀.StaysIn g ∧
      ∀ h' mg' news', Fr g Lg h' mg' → News g Lg h' news' → Fr h₀ L h' m ∧ ∃ og', NsO og' mg' ∧ News h₀ L h' ((Lg, og') :: news') := by
  obtain ⟨oL, hL, nL⟩ := nsO_of F.ns
  have live := get_live hL
  have gL : (keepOf h₀ L oL).get? L = some oL := keepOf_L live
  have old : h₀.StaysIn (keepOf h₀ L oL) := fun b o e => keepOf_old F.above e
  have Fg : Fr h₀ L (keepOf h₀ L oL) m := ⟨nL.ns gL, old, F.above⟩
  have sub : ∀ b o, (keepOf h₀ L oL).get? b = some o → h.get? b = some o := fun b o e => by
    rcases of_keepOf e with ⟨rfl, rfl⟩ | e
    · exact hL
    · exact F.keep b o e
  have hg := N (Lg, og) (.head _)
  refine ⟨keepOf h₀ L oL, Fg, ⟨ng.ns hg.1, sub, by rw [keepOf_size]; exact hlt⟩, fun p hp => ?_, ?_, old, fun h' mg' news' F' N' => ?_⟩
  · have hn := N p (.tail _ hp)
    refine ⟨hn.1, hap p hp, ?_⟩
    cases q : (keepOf h₀ L oL).get? p.1 with
    | none => rfl
    | some x =>
      rcases of_keepOf q with ⟨e, _⟩ | e
      · exact absurd e hn.2.1
      · rw [hn.2.2] at e; cases e
  · have B₁ := pushX (A := A₀) (env := env) B Fg hf hke
    exact ⟨hA, B₁.stays, B₁.frames⟩
  · have F1 : Fr h₀ L h' m := ⟨nL.ns (F'.keep L oL gL), fun b o e => F'.keep b o (old b o e), F.above⟩
    obtain ⟨og', h1, h2⟩ := nsO_of F'.ns
    refine ⟨F1, og', h2, fun p hp => ?_⟩
    rcases List.mem_cons.mp hp with rfl | hp
    · exact ⟨h1, hg.2.1, hg.2.2⟩
    · have hn := N' p hp
      refine ⟨hn.1, fun e => ?_, ?_⟩
      · have := hn.2.2; rw [e, gL] at this; cases this
      · cases q : h₀.get? p.1 with
        | none => rfl
        | some o => have := hn.2.2; rw [old _ _ q] at this; cases this
end
end Mine
end
-- G3
section
open PySem PySem.W PySem.W.X PyProof.Rows PySem.Calls PySem.Spec
set_option Elab.async false
set_option maxRecDepth 100000
set_option maxHeartbeats 4000000
namespace Mine
noncomputable abbrev genO (n : Nat) (nm qn : Value) : Obj := { cls := .type "generator", data := .fields #[.int n 0, nm, qn] }
theorem genO_is {h : Heap} {a : Addr} {n : Nat} {nm qn : Value} (e : h.get? a = some (genO n nm qn)) : h.IsGen a n := ⟨_, nm, qn, e, rfl, rfl, rfl⟩
section
variable {prog : Program} {w : World} {A : Around} {E : Value → Shared → Prop} {s : Shared} {h₀ : Heap} {L : Addr} {m : Str → Option Value} {news : List (Addr × Obj)} {K : Frag} {Q : Value → Shared → Prop}
  {p : Program} {loose : List Str} {mean : ExcName → Option Value} {mg mb : Str → Option Value}
/-- a call of a generator function makes a generator -/
theorem call_gen {name qual : Str} {params : Arguments} {body : List Stmt} {scope : Scope} {dV kV doc pm cdv ct oc : Value} {an od : Option Addr} {osl : Array (Option Value)} {f : Addr} {pos : List Value} {binds : List (Str × Value)}
    (F : Fr h₀ L s.heap m) (X₀ : K.In h₀) (N : News h₀ L s.heap news) (T : Top p loose mean mg mb h₀)
    (ho : K.lookup f = some ⟨oc, od, .func (fnOf name qual params body scope dV kV doc pm an cdv ct), osl⟩) (hcd : codeIn K cdv qual = true) (hroom : A.depth < recursionLimit)
    (hbind : BindsTo s (fnOf name qual params body scope dV kV doc pm an cdv ct) ⟨pos, []⟩ binds) (hloc : ∀ y ∈ binds, scope.names.lookup y.1 = some .local)
    (h : ∀ G Lg og h' tk n1 n2, NsO og (fun y => binds.reverse.lookup y) → Fr h₀ L h' m → News h₀ L h' ((G, genO s.gens.size n1 n2) :: (Lg, og) :: news) → (∀ p ∈ news, p.1 < Lg) → @LT.lt Nat _ L Lg → @LT.lt Nat _ Lg G →
      Q (.ref G) { s with heap := h', toks := tk, gens := s.gens.push (.fresh (.func body (envOf qual scope Lg f cdv))) })
    (hco : scope.isCoroutine = false) (hgen : scope.isGenerator = true) (hk : scope.kind = .function)
    (hcell : ∀ x ∈ scope.names, x.2 ≠ .cell) : wpAny (model prog w) A (call (.ref f) pos) Q E s := by
  refine wpAny_call (codeAny_call_generator hroom ((X₀.keeps F.keep) _ _ ho) rfl hco hgen rfl (codeRec_of (X₀.keeps F.keep) hcd) (hbind _ _ _ _ ?_))
  refine wpAny_newFunctionEnv hcell hloc (fun h₁ hns hsb => ⟨(T.nolimit.keeps F.keep).fresh _ hsb, ?_⟩) hk
  have hk₁ : ∀ b o, s.heap.get? b = some o → h₁.get? b = some o := fun b o e => hsb.extBut b o (Nat.ne_of_lt (Heap.lt_size e)) (Heap.get?_push_of_some _ e)
  obtain ⟨og, hog, nog⟩ := nsO_of hns
  obtain ⟨oL, hL, nL⟩ := nsO_of F.ns
  have hLlt : @LT.lt Nat _ L s.heap.objs.size := Heap.lt_size hL
  have hlt : @LT.lt Nat _ s.heap.objs.size h₁.objs.size := Heap.lt_size hog
  have fresh : h₀.get? s.heap.objs.size = none := none_of_new F size_none
  have fresh2 : h₀.get? h₁.objs.size = none := by
    cases q : h₀.get? h₁.objs.size with
    | none => rfl
    | some o => exact absurd (Heap.lt_size (hk₁ _ _ (F.keep _ _ q))) (Nat.lt_irrefl _)
  refine h h₁.objs.size s.heap.objs.size og _ _ (.str name (s.toks + binds.length)) (.str qual (s.toks + binds.length + 1)) nog ?_ ?_ (fun q hq => Heap.lt_size (N q hq).1) hLlt hlt
  · exact (F.keeps hk₁).push _
  · intro q hq
    rcases List.mem_cons.mp hq with rfl | hq
    · exact ⟨Heap.get?_push_size _ rfl, by show @Ne Nat _ _; omega, fresh2⟩
    · rcases List.mem_cons.mp hq with rfl | hq
      · exact ⟨Heap.get?_push_of_some _ hog, by show @Ne Nat _ _; omega, fresh⟩
      · exact ⟨Heap.get?_push_of_some _ (hk₁ _ _ (N q hq).1), (N q hq).2⟩
end
end Mine
end
-- M11
section
open PySem PySem.W PySem.W.X PyProof.Rows PySem.Calls PySem.Spec
set_option Elab.async false
set_option maxRecDepth 100000
set_option maxHeartbeats 4000000
namespace Mine
local macro_rules | `(tactic| walk_at "none at all") => `(tactic| fail)
local macro_rules | `(tactic| walk_at "none at all") => `(tactic| fail)
theorem reset_M11 : True := by
  w_top off
  trivial
theorem warm11 : (PySem.Challenge.rw_ar0037_04 = PySem.Challenge.rw_ar0037_04) ∧ (∀ P, Kc P = Kc P) := by
  k_fill
  exact ⟨rfl, fun _ => rfl⟩

noncomputable abbrev envG (Lg : Addr) : Env := envOf (Str.ofString "Reader.chunks") s477.1 Lg 477 (.ref 476)
noncomputable def whl : { x : Expr × List Stmt × Pos × Stmt // b477.1 = [x.2.2.2, .While x.1 x.2.1 [] x.2.2.1] } := ⟨(_, _, _, _), rfl⟩
noncomputable def wb : { x : Stmt × Expr × Pos × Pos × Stmt // whl.1.2.1 = [x.1, .Expr (.Yield (some x.2.1) x.2.2.1) x.2.2.2.1, x.2.2.2.2] } := ⟨(_, _, _, _, _), rfl⟩
noncomputable abbrev WC (Lg : Addr) : Code := .whileLoop whl.1.1 whl.1.2.1 [] (envG Lg)
noncomputable def KNext (Lg : Addr) : Sem Fin := (execs [wb.1.2.2.2.2] (envG Lg)).wrap (KW whl.1.1 whl.1.2.1 [] (envG Lg)) (HW (envG Lg)) id id
noncomputable def FK (Lg : Addr) : Result → Sem Fin := fun r => ((match r with | .ok f => (.pure f : Sem Flow) | .error e => .raise e).onRaise fun (x : Value) => do
        if (← field x 1) == Value.none then unsupported "frame.own-activation:exception-without-traceback"
        setFlight x (envG Lg).frame).wrap (fun (f : Flow) => match f with | .next => (execs [] (envG Lg)).wrap KF (HF (envG Lg)) id id | f => KF f) (HF (envG Lg)) id id
noncomputable def FSx (Lg : Addr) (p : Pos) : List Frame := [.ret (FK Lg) none false [] (.func b477.1 (envG Lg)) p []]
theorem overF {dp un : Nat} {gd : Option (List Code)} {cn : Str} {cs : Scope} {L a : Addr} {ccd : Value} {cl : List (Str × Addr)} {outer : List Env} {b : List Stmt} {e : Env} :
    (ktrTop dp un gd cn cs L a ccd cl outer).over (.func b e) [] = (ktrTop dp un gd cn cs L a ccd cl outer).deeper e := rfl
theorem hmF (Lg : Addr) (p : Pos) : Hm ((FSx Lg p).map Frame.where_) := fun x hx => by
  cases hx with
  | head => rfl
  | tail _ h => cases h
theorem overG {dp un : Nat} {gd : Option (List Code)} {cn : Str} {cs : Scope} {L a : Addr} {ccd : Value} {cl : List (Str × Addr)} {outer : List Env} {Lg : Addr} {p : Pos} {t : Expr} {b o : List Stmt} {e : Env} :
    (ktrTop dp un gd cn cs L a ccd cl outer).over (.whileLoop t b o e) (FSx Lg p) = (ktrTop dp un gd cn cs L a ccd cl outer).deeper (envG Lg) := rfl

theorem drop2 {q a : Addr × Obj} {l : List (Addr × Obj)} : ∀ p ∈ q :: l, p ∈ q :: a :: l := fun p hp => by
  rcases List.mem_cons.mp hp with rfl | hp
  · exact .head _
  · exact .tail _ (.tail _ hp)

local macro_rules | `(tactic| walk_at "eval Name") => `(tactic| (k_here; k_dflt (refine' ld ?k1 ?k2 ?_; (case k1 => k_asm); (case k2 => assumption); k_whole)))
theorem loopG {prog : Program} {w : World} {p : Program} {loose : List Str} {mean : ExcName → Option Value} {mg mb : Str → Option Value}
  {dp un : Nat} {gd : Option (List Code)} {cn : Str} {cs : Scope} {a : Addr} {ccd : Value} {cl : List (Str × Addr)} {outer : List Env} {A₀ : Around} {base g : Heap} {L Lg : Addr} {mG : Str → Option Value} {s : Shared} {P : End → Shared → Prop}
  {x dx r dr : Addr} {t tkO t1 t2 t3 t4 : Tok} {rest : List (Addr × Obj)}  {X8 R K D CK : Array UInt8} {SG : Value} {pre : Array UInt8} {pp : Pos}
  (B : Below A₀ base (envX cn cs L a ccd cl :: outer) g) (F : Fr g Lg s.heap mG) (X : (Kc w.params).In g) (N : News g Lg s.heap ((x, instObj 126 dx) :: (dx, octObj w.params (pre ++ (X8 ++ (D ++ (CK ++ R)))) t tkO) :: (r, instObj 651 dr) :: (dr, rdObj w.params SG .none x t1 t2 t3 t4) :: rest)) (T : Top p loose mean mg mb g) (hself : mG (Str.ofString "self") = some (.ref r))
  (hne : @Ne Nat x dx) (hr : @Ne Nat r dr) (h1 : @Ne Nat r x) (h2 : @Ne Nat r dx) (h3 : @Ne Nat dr x) (h4 : @Ne Nat dr dx) (hoff : OwnOff rest [x, dx]) (hofr : OwnOff rest [r, dr])  (hd : dp ≤ 370) (hu : un ≤ 350) (hz : (pre ++ (X8 ++ (D ++ (CK ++ R)))).size ≤ 100000) (hs : Sig SG pre) (hX8 : X8.size = 8) (hX : X8 = (be4 D.size).toArray ++ K) (hK : K.size = 4) (hD : D.size ≤ 1000) (hCK : CK = (be4 (crcOf K D)).toArray) (hlet : ∀ k, (octInts K).any (· == k) = true → letters k = true)
  (ret : ∀ y h' tk' t' us u1 u2 v1 mG', Fr g Lg h' mG' → News g Lg h' ((y, tupObj [.bytes K u1, .bytes D u2] 0) :: (x, instObj 126 dx) :: (dx, octObj w.params (R) t' tkO) :: (r, instObj 651 dr) :: (dr, rdObj w.params (.bytes sigB us) .none x t1 t2 t3 t4) :: rest) → (x < y ∧ dx < y ∧ r < y ∧ dr < y ∧ AllLt y rest) →
    mG' (Str.ofString "self") = some (.ref r) → mG' (Str.ofString "t") = some (.bytes K v1) →
    ∀ l k pp', Wakes1 (model prog w) k (WC Lg) (KNext Lg) (FSx Lg pp) → P (.susp (.ref y) false l k (WC Lg) pp' (FSx Lg pp)) { s with heap := h', toks := tk' }) :
  SegH (model prog w) (ktrTop dp un gd cn cs L a ccd cl outer) (WC Lg) ((model prog w).den (WC Lg)) (FSx Lg pp) s P := by
  refine segH_whileLoop (hmF Lg pp) ?_
  rw [overG]
  dsimp only [whl, wb, b477, s477] at *
  refine .of_any ?_
  k_steps
  refine segH_execs_cons (segH_wrap rfl (hmF Lg pp) ?_)
  rw [overG]
  refine AssignH1 (methodCallH ?_)
  k_steps
  rename Fr _ _ _ _ => eF
  rename News _ _ _ _ => eN
  refine callWithH0 (K := Kc w.params) (by k_is) (X.keeps eF.keep) ?_
  k_dflt (refine' chunk_spec ?B ?F ?X ?N ?T ?K ?hne ?hr ?h1 ?h2 ?h3 ?h4 ?hoff ?hofr ?hd ?hu ?hz ?e0 ?e1 ?e2 ?e3 ?e4 ?e5 ?e6 ?_; (case B => k_asm); (case F => k_asm); (case X => k_asm); (case N => k_asm); (case T => k_asm); (case K => exact rfl); (case hne => assumption); (case hr => assumption); (case h1 => assumption); (case h2 => assumption); (case h3 => assumption); (case h4 => assumption); (case hoff => assumption); (case hofr => assumption); (case hd => (dsimp only [ktrTop, Around.deeper]; omega)); (case hu => (dsimp only [ktrTop, Around.deeper]; omega)); (case hz => assumption); (case e0 => assumption); (case e1 => assumption); (case e2 => assumption); (case e3 => assumption); (case e4 => assumption); (case e5 => assumption); (case e6 => assumption); k_whole)
  intro y9 h9 k9 t9 us9 v1 v2 F9 N9 l9
  clear eF eN
  obtain ⟨a1, a2, a3, a4, a5⟩ := l9
  have c1 := ltN a1
  have c2 := ltN a2
  have c3 := ltN a3
  have c4 := ltN a4
  k_steps
  dsimp only
  refine segH_execs_cons (segH_Yield rfl (hmF Lg pp) rfl rfl rfl ?_)
  rw [overG]
  refine .of_any ?_
  k_steps
  rename_i h5 F5 N5 l5 lv kk p5 W5
  obtain ⟨_, d1, d2, d3, d4, d5⟩ := l5
  exact ret _ _ _ _ _ _ _ _ _ F5 (news_sub N5 drop2) ⟨d1, d2, d3, d4, d5⟩ hself rfl _ _ _ W5

theorem eqb_no {prog : Program} {w : World} {A : Around} {E : Value → Shared → Prop} {s : Shared} {a b : Array UInt8} {t u : Tok} {Q : Value → Shared → Prop} (h : a.toList ≠ b.toList) (hQ : Q (.bool false) s) : wpAny (model prog w) A (compareOp .Eq (.bytes a t) (.bytes b u)) Q E s := eq_bytes (by rw [beq_eq_false_iff_ne.mpr h]; exact hQ)
theorem eqb_yes {prog : Program} {w : World} {A : Around} {E : Value → Shared → Prop} {s : Shared} {a b : Array UInt8} {t u : Tok} {Q : Value → Shared → Prop} (h : a.toList = b.toList) (hQ : Q (.bool true) s) : wpAny (model prog w) A (compareOp .Eq (.bytes a t) (.bytes b u)) Q E s := eq_bytes (by rw [beq_iff_eq.mpr h]; exact hQ)
local macro_rules | `(tactic| walk_at "compareOp Eq bytes bytes") => `(tactic| (k_here; first | refine eqb_no (by assumption) ?_ | refine eqb_yes (by assumption) ?_))
theorem runMore {prog : Program} {w : World} {p : Program} {loose : List Str} {mean : ExcName → Option Value} {mg mb : Str → Option Value}
  {dp un : Nat} {gd : Option (List Code)} {cn : Str} {cs : Scope} {a : Addr} {ccd : Value} {cl : List (Str × Addr)} {outer : List Env} {A₀ : Around} {base g : Heap} {L Lg : Addr} {mG : Str → Option Value} {s : Shared} {P : End → Shared → Prop} {r : Addr} {pp : Pos} {K : Array UInt8} {v : Tok} {rest : List (Addr × Obj)}
  (B : Below A₀ base (envX cn cs L a ccd cl :: outer) g) (F : Fr g Lg s.heap mG) (X : (Kc w.params).In g) (N : News g Lg s.heap (rest)) (T : Top p loose mean mg mb g) (hself : mG (Str.ofString "self") = some (.ref r)) (ht : mG (Str.ofString "t") = some (.bytes K v)) (hK : K.toList ≠ [73, 69, 78, 68])
  (h : ∀ tk, SegH (model prog w) (ktrTop dp un gd cn cs L a ccd cl outer) (WC Lg) ((model prog w).den (WC Lg)) (FSx Lg pp) { s with toks := tk } P) :
    SegH (model prog w) (ktrTop dp un gd cn cs L a ccd cl outer) (WC Lg) (KNext Lg) (FSx Lg pp) s P := by
  unfold KNext
  refine segH_execs_cons (segH_wrap rfl (hmF Lg pp) ?_)
  rw [overG]
  dsimp only [wb, s477] at *
  refine .of_any ?_
  k_steps
  show SegH _ _ (WC Lg) (.pure (.again (WC Lg))) (FSx Lg pp) _ _
  exact segH_again rfl (h _)
theorem runStop {prog : Program} {w : World} {p : Program} {loose : List Str} {mean : ExcName → Option Value} {mg mb : Str → Option Value}
  {dp un : Nat} {gd : Option (List Code)} {cn : Str} {cs : Scope} {a : Addr} {ccd : Value} {cl : List (Str × Addr)} {outer : List Env} {A₀ : Around} {base g : Heap} {L Lg : Addr} {mG : Str → Option Value} {s : Shared} {P : End → Shared → Prop} {r : Addr} {pp : Pos} {K : Array UInt8} {v : Tok} {rest : List (Addr × Obj)}
  (B : Below A₀ base (envX cn cs L a ccd cl :: outer) g) (F : Fr g Lg s.heap mG) (X : (Kc w.params).In g) (N : News g Lg s.heap (rest)) (T : Top p loose mean mg mb g) (hself : mG (Str.ofString "self") = some (.ref r)) (ht : mG (Str.ofString "t") = some (.bytes K v)) (hK : K.toList = [73, 69, 78, 68])
  (h : ∀ tk, P (.ret (.ok (.ret .none))) { s with toks := tk }) :
    SegH (model prog w) (ktrTop dp un gd cn cs L a ccd cl outer) (WC Lg) (KNext Lg) (FSx Lg pp) s P := by
  unfold KNext
  refine segH_execs_cons (segH_wrap rfl (hmF Lg pp) ?_)
  rw [overG]
  dsimp only [wb, s477] at *
  refine .of_any ?_
  k_steps
  show SegH _ _ _ (leafOf (.ok .next)) (.ret (FK Lg) none false [] (.func b477.1 (envG Lg)) pp [] :: []) _ _
  refine segH_leaf (.ok .next) ?_
  show SegH _ _ _ (leafOf (.ok (.ret .none))) [] _ _
  exact segH_end _ (h _)
theorem runFresh {prog : Program} {w : World} {p : Program} {loose : List Str} {mean : ExcName → Option Value} {mg mb : Str → Option Value}
  {dp un : Nat} {gd : Option (List Code)} {cn : Str} {cs : Scope} {a : Addr} {ccd : Value} {cl : List (Str × Addr)} {outer : List Env} {A₀ : Around} {base g : Heap} {L Lg : Addr} {mG : Str → Option Value} {s : Shared} {P : End → Shared → Prop} {r : Addr} {rest : List (Addr × Obj)}
  (B : Below A₀ base (envX cn cs L a ccd cl :: outer) g) (F : Fr g Lg s.heap mG) (X : (Kc w.params).In g) (N : News g Lg s.heap (rest)) (T : Top p loose mean mg mb g) (hself : mG (Str.ofString "self") = some (.ref r))
  (h : ∀ tk pp, SegH (model prog w) (ktrTop dp un gd cn cs L a ccd cl outer) (WC Lg) ((model prog w).den (WC Lg)) (FSx Lg pp) { s with toks := tk } P) :
    SegH (model prog w) (ktrTop dp un gd cn cs L a ccd cl outer) (.func b477.1 (envG Lg)) ((model prog w).den (.func b477.1 (envG Lg))) [] s P := by
  refine segH_func (fun x hx => nomatch hx) ?_
  show SegH _ _ _ ((execs [whl.1.2.2.2, .While whl.1.1 whl.1.2.1 [] whl.1.2.2.1] (envG Lg)).wrap _ _ _ _) _ _ _
  refine segH_execs_cons (segH_wrap rfl (fun x hx => nomatch hx) ?_)
  rw [overF]
  dsimp only [whl, s477] at *
  refine .of_any ?_
  k_steps
  dsimp only
  refine segH_execs_cons (segH_While rfl (fun x hx => nomatch hx) fun pp => ?_)
  exact h _ pp
end Mine
end
-- M12
section
open PySem PySem.W PySem.W.X PyProof.Rows PySem.Calls PySem.Spec
set_option Elab.async false
set_option maxRecDepth 100000
set_option maxHeartbeats 4000000
namespace Mine
theorem warm12 : (PySem.Challenge.rw_ar0037_04 = PySem.Challenge.rw_ar0037_04) ∧ (∀ P, Kc P = Kc P) := by
  k_fill
  exact ⟨rfl, fun _ => rfl⟩

/-- where a generator stands: fresh, or behind the yield of the kind q -/
inductive GAt (prog : Program) (w : World) (Lg : Addr) (mG : Str → Option Value) : GenState → Option (Array UInt8) → Prop
  | fresh : GAt prog w Lg mG (.fresh (.func b477.1 (envG Lg))) none
  | susp (k : Resume → Sem Fin) (l : List Value) (p pp : Pos) (K : Array UInt8) (v : Tok) (W : Wakes1 (model prog w) k (WC Lg) (KNext Lg) (FSx Lg pp)) (ht : mG (Str.ofString "t") = some (.bytes K v)) :
      GAt prog w Lg mG (.suspended k l (WC Lg) p (FSx Lg pp) false) (some K)
theorem GAt.bare {prog : Program} {w : World} {Lg : Addr} {mG : Str → Option Value} {gs : GenState} {q : Option (Array UInt8)} (h : GAt prog w Lg mG gs q) : gs.bare = true := by cases h <;> rfl
theorem bare_set {g : Array GenState} {n : Nat} {x : GenState} (h : AllBare g) (hx : x.bare = true) : AllBare (g.setIfInBounds n x) := fun y hy => by
  rcases Array.mem_or_eq_of_mem_setIfInBounds hy with h' | rfl
  · exact h y h'
  · exact hx
theorem set_get {g : Array GenState} {n : Nat} {x gs : GenState} (h : g[n]? = some gs) : (g.setIfInBounds n x)[n]? = some x := by
  have hn : n < g.size := by
    rw [Array.getElem?_eq_some_iff] at h
    exact h.1
  simp [Array.getElem?_setIfInBounds, hn]
theorem swap2 {a b : Addr × Obj} {l : List (Addr × Obj)} : ∀ p ∈ a :: b :: l, p ∈ b :: a :: l := fun p hp => by
  simp only [List.mem_cons] at hp ⊢
  rcases hp with h | h | h
  · exact .inr (.inl h)
  · exact .inl h
  · exact .inr (.inr h)
theorem new_chunks {prog : Program} {w : World} {p : Program} {loose : List Str} {mean : ExcName → Option Value} {mg mb : Str → Option Value}
  {dp un : Nat} {gd : Option (List Code)} {cn : Str} {cs : Scope} {a : Addr} {ccd : Value} {cl : List (Str × Addr)} {outer : List Env} {A₀ : Around} {base h₀ : Heap} {L : Addr} {m : Str → Option Value} {s : Shared} {Q E : Value → Shared → Prop} {r : Addr} {rest : List (Addr × Obj)}
  (B : Below A₀ base outer h₀) (F : Fr h₀ L s.heap m) (X : (Kc w.params).In h₀) (N : News h₀ L s.heap (rest)) (T : Top p loose mean mg mb h₀) (hk : cs.kind = .function) (hd : dp ≤ 370)
  (ret : ∀ G Lg og h' tk n1 n2 mG, NsO og mG → mG (Str.ofString "self") = some (.ref r) → Fr h₀ L h' m → News h₀ L h' ((G, genO s.gens.size n1 n2) :: (Lg, og) :: rest) → (∀ p ∈ rest, p.1 < Lg) → @LT.lt Nat _ L Lg → @LT.lt Nat _ Lg G →
      Q (.ref G) { s with heap := h', toks := tk, gens := s.gens.push (.fresh (.func b477.1 (envG Lg))) }) :
  wpAny (model prog w) (ktrTop dp un gd cn cs L a ccd cl outer) (call (.ref 477) [.ref r]) Q E s := by
  refine' call_gen ?k2 ?k3 ?k4 ?k5 ?k6 ?k7 ?k8 ?k9 ?kB ?_ ?c2 ?c3 ?c4 ?c5
  case k2 => exact F
  case k3 => exact X
  case k4 => exact N
  case k5 => exact T
  case k6 => k_is
  case k7 => k_is
  case k8 => exact Nat.lt_of_le_of_lt hd (by decide)
  case k9 => exact BindsTo.of_eq rfl
  case c5 => decide
  case kB => exact locs rfl
  case c2 => exact rfl
  case c3 => exact rfl
  case c4 => exact rfl
  intro G Lg og h' tk n1 n2 ng F' N' l1 l2 l3
  exact ret G Lg og h' tk n1 n2 _ ng rfl F' N' l1 l2 l3
theorem nextMore {prog : Program} {w : World} {p : Program} {loose : List Str} {mean : ExcName → Option Value} {mg mb : Str → Option Value}
  {dp un : Nat} {gd : Option (List Code)} {cn : Str} {cs : Scope} {a : Addr} {ccd : Value} {cl : List (Str × Addr)} {outer : List Env} {A₀ : Around} {base h₀ : Heap} {L : Addr} {m : Str → Option Value} {s : Shared} {E : Value → Shared → Prop} {Q' : Option Value → Shared → Prop} {x dx r dr : Addr} {t tkO t1 t2 t3 t4 : Tok} {rest : List (Addr × Obj)}  {Lg G : Addr} {og : Obj} {mG : Str → Option Value} {n : Nat} {gs : GenState} {q : Option (Array UInt8)} {X8 R K D CK : Array UInt8} {SG : Value} {pre : Array UInt8}
  (B : Below A₀ base outer h₀) (F : Fr h₀ L s.heap m) (X : (Kc w.params).In h₀) (N : News h₀ L s.heap ((Lg, og) :: (x, instObj 126 dx) :: (dx, octObj w.params (pre ++ (X8 ++ (D ++ (CK ++ R)))) t tkO) :: (r, instObj 651 dr) :: (dr, rdObj w.params SG .none x t1 t2 t3 t4) :: rest)) (T : Top p loose mean mg mb h₀) (hk : cs.kind = .function) (hne : @Ne Nat x dx) (hr : @Ne Nat r dr) (h1 : @Ne Nat r x) (h2 : @Ne Nat r dx) (h3 : @Ne Nat dr x) (h4 : @Ne Nat dr dx) (hoff : OwnOff rest [x, dx]) (hofr : OwnOff rest [r, dr])  (hd : dp ≤ 360) (hu : un ≤ 340)  (hz : (pre ++ (X8 ++ (D ++ (CK ++ R)))).size ≤ 100000) (hs : Sig SG pre) (hX8 : X8.size = 8) (hX : X8 = (be4 D.size).toArray ++ K) (hK : K.size = 4) (hD : D.size ≤ 1000) (hCK : CK = (be4 (crcOf K D)).toArray) (hlet : ∀ k, (octInts K).any (· == k) = true → letters k = true)
  (hg : s.gens[n]? = some gs) (hG : GAt prog w Lg mG gs q) (hq : ∀ K₀, q = some K₀ → K₀.toList ≠ [73, 69, 78, 68]) (ng : NsO og mG) (hself : mG (Str.ofString "self") = some (.ref r)) (hlt : @LT.lt Nat _ L Lg) (hgen : s.heap.IsGen G n)
  (hx : @Ne Nat x Lg) (hdx : @Ne Nat dx Lg) (hrL : @Ne Nat r Lg) (hdrL : @Ne Nat dr Lg) (hap : OwnOff rest [Lg])
  (ret : ∀ y og' mG' gs' gg h' tk' t' us u1 u2, gg[n]? = some gs' → gg.size = s.gens.size → (AllBare s.gens → AllBare gg) → GAt prog w Lg mG' gs' (some K) → NsO og' mG' → mG' (Str.ofString "self") = some (.ref r) →
    Fr h₀ L h' m → News h₀ L h' ((y, tupObj [.bytes K u1, .bytes D u2] 0) :: (Lg, og') :: (x, instObj 126 dx) :: (dx, octObj w.params (R) t' tkO) :: (r, instObj 651 dr) :: (dr, rdObj w.params (.bytes sigB us) .none x t1 t2 t3 t4) :: rest) → (x < y ∧ dx < y ∧ r < y ∧ dr < y ∧ AllLt y rest) → @Ne Nat y Lg →
    Q' (some (.ref y)) { s with heap := h', toks := tk', gens := gg }) :
  wpH (model prog w) (ktrTop dp un gd cn cs L a ccd cl outer) (pyNext (.ref G)) Q' E s := by
  obtain ⟨g, Fg, FL, NL, Bg, st, back⟩ := ground_gen (A := ktrTop dp un gd cn cs L a ccd cl outer) (env := envX cn cs L a ccd cl) B F N rfl rfl hk ng hlt (fun p hp => by
    simp only [List.mem_cons] at hp
    rcases hp with rfl | rfl | rfl | rfl | hp
    · exact hx
    · exact hdx
    · exact hrL
    · exact hdrL
    · exact hap p hp Lg (.head _))
  have Xg : (Kc w.params).In g := X.keeps st
  have Tg := T.keeps st
  have Bk : Below (ktrTop dp un gd cn cs L a ccd cl outer) base (envX cn cs L a ccd cl :: outer) g := Bg
  refine pyNextH_gen rfl (T.nolimit.keeps F.keep) (Nat.lt_of_le_of_lt hd (by decide)) hgen hg ?_
  have fin : ∀ (s₂ : Shared), s₂.heap = s.heap → s₂.gens = s.gens.setIfInBounds n .running → s₂.drawn = s.drawn → s₂.os = s.os → ∀ pp, SegH (model prog w) (ktrTop dp (un + 1) gd cn cs L a ccd cl outer) (WC Lg) ((model prog w).den (WC Lg)) (FSx Lg pp) s₂ (fun e s₁ => match e with
      | .ret r => r = .ok (.ret .none) ∧ ∀ h', (∀ b o, s₁.heap.get? b = some o → h'.get? b = some o) → Q' none { s₁.setGen n .finished with heap := h' }
      | .susp v g₀ l k c p fs => Q' (some v) (s₁.setGen n (End.susp v g₀ l k c p fs).genState)) := by
    intro s₂ e1 e2 e3 e4 pp
    obtain ⟨hp₂, gn₂, dn₂, tk₂, os₂⟩ := s₂
    dsimp only at e1 e2 e3 e4
    subst e1 e2 e3 e4
    refine loopG (s := ⟨s.heap, s.gens.setIfInBounds n .running, s.drawn, tk₂, s.os⟩) (A₀ := ktrTop dp un gd cn cs L a ccd cl outer) Bk FL Xg NL Tg hself hne hr h1 h2 h3 h4 hoff hofr (by omega) (by omega) hz hs hX8 hX hK hD hCK hlet ?_
    intro y h' tk' t' us u1 u2 v1 mG' F' N' l9 hs' ht' l k p' W
    obtain ⟨F1, og', ng', N1⟩ := back _ _ _ F' N'
    have hyL : @Ne Nat y Lg := (N' _ (.head _)).2.1
    refine ret y og' mG' (.suspended k l (WC Lg) p' (FSx Lg pp) false) ((s.gens.setIfInBounds n .running).setIfInBounds n (.suspended k l (WC Lg) p' (FSx Lg pp) false)) h' tk' t' us u1 u2 (set_get (set_get hg)) (by simp) (fun hb => bare_set (bare_set hb rfl) rfl) (.susp k l p' pp K v1 W ht') ng' hs' F1 (news_sub N1 swap2) l9 hyL
  cases hG with
  | fresh => exact runFresh (s := s.setGen n .running) (A₀ := ktrTop dp un gd cn cs L a ccd cl outer) Bk FL Xg NL Tg hself (fun tk pp => fin ⟨s.heap, s.gens.setIfInBounds n .running, s.drawn, tk, s.os⟩ rfl rfl rfl rfl pp)
  | susp k l p₀ pp K₀ v W ht =>
    refine W _ _ _ ?_
    exact runMore (s := s.setGen n .running) (A₀ := ktrTop dp un gd cn cs L a ccd cl outer) Bk FL Xg NL Tg hself ht (hq K₀ rfl) (fun tk => fin ⟨s.heap, s.gens.setIfInBounds n .running, s.drawn, tk, s.os⟩ rfl rfl rfl rfl pp)
theorem nextStop {prog : Program} {w : World} {p : Program} {loose : List Str} {mean : ExcName → Option Value} {mg mb : Str → Option Value}
  {dp un : Nat} {gd : Option (List Code)} {cn : Str} {cs : Scope} {a : Addr} {ccd : Value} {cl : List (Str × Addr)} {outer : List Env} {A₀ : Around} {base h₀ : Heap} {L : Addr} {m : Str → Option Value} {s : Shared} {E : Value → Shared → Prop} {Q' : Option Value → Shared → Prop} {r : Addr} {rest : List (Addr × Obj)} {Lg G : Addr} {og : Obj} {mG : Str → Option Value} {n : Nat} {gs : GenState} {K : Array UInt8}
  (B : Below A₀ base outer h₀) (F : Fr h₀ L s.heap m) (X : (Kc w.params).In h₀) (N : News h₀ L s.heap ((Lg, og) :: rest)) (T : Top p loose mean mg mb h₀) (hk : cs.kind = .function) (hd : dp ≤ 360) (hu : un ≤ 340)
  (hg : s.gens[n]? = some gs) (hG : GAt prog w Lg mG gs (some K)) (hq : K.toList = [73, 69, 78, 68]) (ng : NsO og mG) (hself : mG (Str.ofString "self") = some (.ref r)) (hlt : @LT.lt Nat _ L Lg) (hgen : s.heap.IsGen G n) (hap : OwnOff rest [Lg])
  (ret : ∀ gg h' tk', gg.size = s.gens.size → (AllBare s.gens → AllBare gg) →
    Fr h₀ L h' m → News h₀ L h' rest → Q' none { s with heap := h', toks := tk', gens := gg }) :
  wpH (model prog w) (ktrTop dp un gd cn cs L a ccd cl outer) (pyNext (.ref G)) Q' E s := by
  obtain ⟨g, Fg, FL, NL, Bg, st, back⟩ := ground_gen (A := ktrTop dp un gd cn cs L a ccd cl outer) (env := envX cn cs L a ccd cl) B F N rfl rfl hk ng hlt (fun p hp => hap p hp Lg (.head _))
  have Xg : (Kc w.params).In g := X.keeps st
  have Tg := T.keeps st
  have Bk : Below (ktrTop dp un gd cn cs L a ccd cl outer) base (envX cn cs L a ccd cl :: outer) g := Bg
  refine pyNextH_gen rfl (T.nolimit.keeps F.keep) (Nat.lt_of_le_of_lt hd (by decide)) hgen hg ?_
  cases hG with
  | susp k l p₀ pp K₀ v W ht =>
    refine W _ _ _ ?_
    refine runStop (s := s.setGen n .running) (A₀ := ktrTop dp un gd cn cs L a ccd cl outer) Bk FL Xg NL Tg hself ht hq (fun tk => ?_)
    refine ⟨rfl, fun h' hk' => ?_⟩
    exact ret ((s.gens.setIfInBounds n .running).setIfInBounds n .finished) h' tk (by simp) (fun hb => bare_set (bare_set hb rfl) rfl) (F.keeps hk') (fun p hp => ⟨hk' _ _ (N p (.tail _ hp)).1, (N p (.tail _ hp)).2⟩)
end Mine
end
-- G4
section
open PySem PySem.W PySem.W.X PyProof.Rows PySem.Calls PySem.Spec
set_option Elab.async false
set_option maxRecDepth 100000
set_option maxHeartbeats 4000000
namespace Mine
section
variable {M : Model} {A : Around} {E : Value → Shared → Prop} {s : Shared} {env : Env}
theorem codeH_loop {c : Code} {R : Result → Shared → Prop} (hh : holder c = false) (hq : c.quiet = true) (I : Nat → Shared → Prop)
    (turn : ∀ n s, I n s → wpH M (A.under c) (M.den c)
      (fun fin s' => match fin with | .done f => R (.ok f) s' | .again c' => (c' = c ∧ ∃ m, m < n ∧ I m s') ∨ (c'.quiet = true ∧ codeH M A c' R s')) (fun e s' => R (.error e) s') s)
    (n : Nat) (h : I n s) : codeH M A c R s := by
  induction n using Nat.strongRecOn generalizing s with
  | ind n ih =>
    refine codeH_of_tree hh (wpH_mono (turn n s h) (fun fin s' hf => ?_) fun _ _ h' => h')
    cases fin with
    | done f => exact hf
    | again c' =>
      rcases hf with ⟨rfl, m, hm, hI⟩ | hf
      · exact ⟨hq, ih m hm hI⟩
      · exact hf
theorem standIfH {α : Type} {c : Prop} [Decidable c] {pos : Pos} {k : PUnit → Sem α} {Q : α → Shared → Prop} (h : wpH M A (k ()) Q E s) :
    wpH M A (if c then (standAt pos >>= k) else k ()) Q E s := by
  split
  · exact wpH_bind (wpH_standAt h)
  · exact h
/-- [elt for target in iter], over the stacks without a holder; nothing raises -/
theorem listCompH {elt target iter : Expr} {scope : Scope} {pos : Pos} {Q : Value → Shared → Prop}
    (hfree : ∀ x ∈ scope.names, x.2 ≠ .free) (hkind : scope.kind = .function) (hnames : ∀ x ∈ scope.names, x.2 = .local → scope.names.lookup x.1 = some .local)
    (h : wpAny M A (eval iter env) (fun x s₁ => wpAny M A (pyIter x) (fun it s₂ => wpAny M A (newList []) (fun acc s₃ =>
      wpAny M A (newFunctionEnv scope env.globals [] [] env.qual none .none (some env)) (fun cenv s₄ =>
        codeH M A (.compStart (.ListComp elt [⟨target, iter, [], 0⟩] scope pos) 0 it acc { cenv with scope := scope }) (fun r s' => (∃ f, r = .ok f) ∧ ∃ m, s'.heap.Ns cenv.locals m ∧ ∀ h', Heap.SameBut cenv.locals s'.heap h' →
          Q acc { s' with heap := h' }) s₄) E s₃) E s₂) E s₁) E s)
    (hs : ∀ x, foldedSetIterable iter env x = pure x := by intro _; rfl) : wpH M A (eval (.ListComp elt [⟨target, iter, [], 0⟩] scope pos) env) Q E s := by
  rw [eval_ListComp]
  unfold comprehension
  rw [closureFor_none hfree, show clausesOf (.ListComp elt [⟨target, iter, [], 0⟩] scope pos) = [⟨target, iter, [], 0⟩] from rfl]
  refine wpH_bind (.of_any (wpAny_mono (show wpAny M A (firstIter [⟨target, iter, [], 0⟩] env) _ E s from h) (fun x s₁ h₁ => ?_) fun _ _ h' => h'))
  refine wpH_bind (wpH_standAt ?_)
  refine wpH_bind (.of_any (wpAny_of_eq (hs x) ?_))
  refine wpH_bind (wpH_holding (.of_any (wpAny_mono h₁ (fun it s₂ h₂ => ?_) fun _ _ h' => h')))
  refine standIfH (wpH_bind (.of_any (wpAny_mono h₂ (fun acc s₃ h₃ => ?_) fun _ _ h' => h')))
  refine wpH_bind (wpH_pure (wpH_bind (.of_any (wpAny_mono h₃ (fun cenv s₄ h₄ => ?_) fun _ _ h' => h'))))
  dsimp only
  rw [map_eq_self (l := scope.names) (fun x hx => by
    obtain ⟨n, k⟩ := x
    have : (k == NameKind.free) = false := by simpa using hfree _ hx
    simp [this])]
  have hv : ∀ x ∈ (scope.names.filter fun x => (x.2 == .local || x.2 == .cell) && x.1 != (".0" : Str)).reverse, x.2 = .local →
      Env.kindOf { cenv with scope := scope } x.1 = some .local := fun x hx hl => hnames x (List.mem_filter.mp (List.mem_reverse.mp hx)).1 hl
  refine wpH_holding (wpH_bind (wpH_attempt (wpH_holding (wpH_run (codeH_mono h₄ fun r s' hr => ?_)))))
  obtain ⟨⟨f, rfl⟩, m, hn, hr⟩ := hr
  exact .of_any (wpAny_bind (wpAny_holding (wpAny_comp_letGo (cenv := { cenv with scope := scope }) hkind _ s' m hv hn fun h' m' _ hs' => wpAny_pure (hr h' hs'))))
theorem wpH_noFail {α : Type} {m : Sem α} {k : Value → Sem Unit} {Q : α → Shared → Prop} (h : wpH M A m Q (fun _ _ => False) s) : wpH M A (m.onRaise k) Q E s :=
  wpH_onRaise (wpH_mono h (fun _ _ x => x) fun _ _ x => x.elim)
end
section
variable {prog : Program} {w : World} {A : Around} {R : Result → Shared → Prop} {s : Shared}
theorem codeH_compStart {elt target iter : Expr} {scope : Scope} {pos : Pos} {it acc : Value} {env : Env}
    (h0 : codeH (model prog w) A (.compLoop (.ListComp elt [⟨target, iter, [], 0⟩] scope pos) 0 it acc env) R s)
    (h : wpAny (model prog w) A (pyIter it) (fun it' s' => codeH (model prog w) A (.compLoop (.ListComp elt [⟨target, iter, [], 0⟩] scope pos) 0 it' acc env) R s') (fun _ _ => False) s) :
    codeH (model prog w) A (.compStart (.ListComp elt [⟨target, iter, [], 0⟩] scope pos) 0 it acc env) R s := by
  refine codeH_of_tree rfl ?_
  show wpH _ _ ((compStart (.ListComp elt [⟨target, iter, [], 0⟩] scope pos) 0 it acc env).onRaise (fun x => do noteFrame x env; standAt theWindowsPlace)) _ _ s
  refine wpH_noFail ?_
  unfold compStart
  show wpH _ _ (ask >>= _) _ _ s
  refine wpH_bind (.of_any (wpAny_askSetting ?_))
  split
  · exact wpH_pure (And.intro rfl h0)
  · refine wpH_bind (wpH_rule ?_)
    show wpH _ _ (standAt iter.pos >>= _) _ _ s
    exact wpH_bind (wpH_standAt (wpH_bind (.of_any (wpAny_mono h (fun it' s' h' => wpH_pure (And.intro rfl h')) fun _ _ x => x))))
theorem codeH_compLoop {elt target iter : Expr} {scope : Scope} {pos : Pos} {it acc : Value} {env : Env} (I : Nat → Shared → Prop)
    (turn : ∀ n s, I n s → wpH (model prog w) A (pyNext it) (fun r s₁ => match r with
      | none => R (.ok .next) s₁
      | some v => wpAny (model prog w) A (letOwnedTupleGo target it v) (fun _ s₂ => wpAny (model prog w) A (assign target env v) (fun _ s₂ => wpAny (model prog w) A (eval elt env) (fun x s₃ =>
          wpAny (model prog w) A (call (.builtin "list.append") [acc, x]) (fun _ s₄ => ∃ m, m < n ∧ I m s₄) (fun _ _ => False) s₃)
          (fun _ _ => False) s₂) (fun _ _ => False) s₂) (fun _ _ => False) s₁) (fun _ _ => False) s)
    (n : Nat) (h : I n s) :
    codeH (model prog w) A (.compLoop (.ListComp elt [⟨target, iter, [], 0⟩] scope pos) 0 it acc env) R s := by
  refine codeH_loop rfl rfl I (fun n s hI => ?_) n h
  show wpH _ _ ((compTurn (.ListComp elt [⟨target, iter, [], 0⟩] scope pos) 0 it acc env).onRaise (fun x => do noteFrame x env; theTreesLotGoes x)) _ _ s
  refine wpH_noFail ?_
  rw [compTurn_list1]
  refine wpH_bind (wpH_standAt (wpH_bind (wpH_mono (turn n s hI) (fun r s₁ h₁ => ?_) fun _ _ h' => h')))
  cases r with
  | none => exact wpH_pure h₁
  | some v =>
    refine .of_any (wpAny_bind (wpAny_mono h₁ (fun _ s₂ h₂ => wpAny_bind (wpAny_mono h₂ (fun _ s₂ h₂ => wpAny_bind (wpAny_bind (wpAny_mono h₂ (fun x s₃ h₃ => wpAny_bind (wpAny_mono h₃
      (fun _ s₄ h₄ => wpAny_pure (wpAny_pure (.inl ⟨rfl, h₄⟩))) fun _ _ h' => h')) fun _ _ h' => h'))) fun _ _ h' => h')) fun _ _ h' => h'))
end
section
variable {M : Model} {A : Around} {E : Value → Shared → Prop} {s : Shared} {env : Env} {h₀ : Heap} {L : Addr} {m mc : Str → Option Value} {news : List (Addr × Obj)} {oc : Obj} {x : Str} {v : Value}
/-- a name of the comprehension's own, stored -/
theorem store_ns {Q : Unit → Shared → Prop} (hx : env.kindOf x = some .local) (hk : (env.scope.kind == .class || (env.scope.kind == .module && env.locals != env.globals)) = false) (F : Fr h₀ L s.heap m) (N : News h₀ L s.heap ((env.locals, oc) :: news)) (nc : NsO oc mc) (hap : ∀ p ∈ news, p.1 ≠ env.locals)
    (h : ∀ h' oc', NsO oc' (fun y => if y = x then some v else mc y) → Fr h₀ L h' m → News h₀ L h' ((env.locals, oc') :: news) → Q () { s with heap := h', toks := s.toks + 1 }) : wpAny M A (storeName env x v) Q E s := by
  have hc := N _ (.head _)
  refine wpAny_storeName_local hx (nc.ns hc.1) (fun h' hn hs => ?_) hk
  obtain ⟨oc', e, nc'⟩ := nsO_of hn
  refine h h' oc' nc' ⟨F.ns.sameBut hs (Ne.symm hc.2.1), fun b o e => (hs.2 b fun q => ?_).trans (F.keep b o e), F.above⟩ fun p hp => ?_
  · rw [q, hc.2.2] at e; cases e
  · rcases List.mem_cons.mp hp with rfl | hp
    · exact ⟨e, hc.2⟩
    · exact ⟨(hs.2 _ (hap p hp)).trans (N p (.tail _ hp)).1, (N p (.tail _ hp)).2⟩
/-- and read -/
theorem name_ns {pos : Pos} {Q : Value → Shared → Prop} (hk : env.scope.kind = .function) (hx : env.kindOf x = some .local) (N : News h₀ L s.heap ((env.locals, oc) :: news)) (nc : NsO oc mc) (hv : mc x = some v) (h : Q v s) (hd : (x == ("__debug__" : Str)) = false := by decide) :
    wpAny M A (eval (.Name x pos) env) Q E s := wpAny_Name (wpAny_loadName_local hk hx (nc.ns (N _ (.head _)).1) hv h) hd
end
end Mine
end
-- M13
section
open PySem PySem.W PySem.W.X PyProof.Rows PySem.Calls PySem.Spec
set_option Elab.async false
set_option maxRecDepth 100000
set_option maxHeartbeats 4000000
namespace Mine
theorem reset_M13 : True := by
  w_top off
  trivial
theorem warm13 : (PySem.Challenge.rw_ar0037_04 = PySem.Challenge.rw_ar0037_04) ∧ (∀ P, Kc P = Kc P) := by
  k_fill
  exact ⟨rfl, fun _ => rfl⟩

noncomputable def lawFor : { x : Stmt × Stmt × Stmt × Stmt × Stmt × Stmt × (Expr × Expr × List Stmt × Pos) × Stmt × Stmt // b702.1 = [x.1, x.2.1, x.2.2.1, x.2.2.2.1, x.2.2.2.2.1, x.2.2.2.2.2.1, .For x.2.2.2.2.2.2.1.1 x.2.2.2.2.2.2.1.2.1 x.2.2.2.2.2.2.1.2.2.1 [] x.2.2.2.2.2.2.1.2.2.2, x.2.2.2.2.2.2.2.1, x.2.2.2.2.2.2.2.2] } := ⟨(_, _, _, _, _, _, (_, _, _, _), _, _), rfl⟩
noncomputable def lawIf : { x : Expr × Expr × Pos × Stmt × Pos // lawFor.1.2.2.2.2.2.2.1.2.2.1 = [.If (.Compare x.1 [.NotEq] [x.2.1] x.2.2.1) [x.2.2.2.1] [] x.2.2.2.2] } := ⟨(_, _, _, _, _), rfl⟩
noncomputable def lawLc : { x : Expr × Expr × Expr × Scope × Pos // lawIf.1.1 = .ListComp x.1 [⟨x.2.1, x.2.2.1, [], 0⟩] x.2.2.2.1 x.2.2.2.2 } := ⟨(_, _, _, _, _), rfl⟩

local macro_rules | `(tactic| walk_at "eval Name") => `(tactic| (k_here; k_dflt (refine' nameX_L ?F ?hv ?_; (case F => k_asm); (case hv => assumption); k_whole)))
theorem comp_iter {prog : Program} {w : World} {p : Program} {loose : List Str} {mean : ExcName → Option Value} {mg mb : Str → Option Value}
  {dp un : Nat} {gd : Option (List Code)} {cl : List (Str × Addr)} {outer : List Env} {A₀ : Around} {base h₀ : Heap} {L : Addr} {m : Str → Option Value} {s : Shared} {Q E : Value → Shared → Prop} {x : Addr} {rest : List (Addr × Obj)}
  (B : Below A₀ base outer h₀) (F : Fr h₀ L s.heap m) (X : (Kc w.params).In h₀) (N : News h₀ L s.heap (rest)) (T : Top p loose mean mg mb h₀) (hm : m (Str.ofString "stream") = some (.ref x)) (hd : dp ≤ 360) (hu : un ≤ 350)
  (ret : ∀ G Lg og h' tk n1 n2 mG r dr t1 t2 t3 t4, NsO og mG → mG (Str.ofString "self") = some (.ref r) → Fr h₀ L h' m → News h₀ L h' ((G, genO s.gens.size n1 n2) :: (Lg, og) :: (r, instObj 651 dr) :: (dr, rdObj w.params .none .none x t1 t2 t3 t4) :: rest) → (∀ p ∈ rest, p.1 < dr) → @LT.lt Nat _ dr r → @LT.lt Nat _ r Lg → @LT.lt Nat _ L Lg → @LT.lt Nat _ Lg G →
      Q (.ref G) { s with heap := h', toks := tk, gens := s.gens.push (.fresh (.func b477.1 (envG Lg))) }) :
  wpAny (model prog w) (ktrTop dp un gd (Str.ofString "law") s702.1 L 702 (.ref 701) cl outer) (eval lawLc.1.2.2.1 (envX (Str.ofString "law") s702.1 L 702 (.ref 701) cl)) Q E s := by
  dsimp only [lawLc, lawIf, lawFor, b702, s702] at *
  k_steps
  k_dflt (refine' new_reader ?B ?F ?X ?N ?T ?K ?hd ?hu ?_; (case B => k_asm); (case F => k_asm); (case X => k_asm); (case N => k_asm); (case T => k_asm); (case K => exact rfl); (case hd => omega); (case hu => omega); k_whole)
  intro r dr h1 tk1 t1 t2 t3 t4 F1 N1 l1 l2
  k_steps
  show wpAny _ _ (call (.ref 477) [.ref r]) _ _ _
  refine new_chunks B F1 X N1 T rfl (by omega) ?_
  intro G Lg og h' tk n1 n2 mG ng hs F2 N2 l3 l4 l5
  exact ret G Lg og h' tk n1 n2 mG r dr t1 t2 t3 t4 ng hs F2 N2 l1 l2 (l3 _ (.head _)) l4 l5
end Mine
end
-- M14
section
open PySem PySem.W PySem.W.X PyProof.Rows PySem.Calls PySem.Spec
set_option Elab.async false
set_option maxRecDepth 100000
set_option maxHeartbeats 4000000
namespace Mine
theorem warm14 : (PySem.Challenge.rw_ar0037_04 = PySem.Challenge.rw_ar0037_04) ∧ (∀ P, Kc P = Kc P) := by
  k_fill
  exact ⟨rfl, fun _ => rfl⟩

noncomputable def GoodC (c : Chunk) : Prop := c.1.size = 4 ∧ c.2.size ≤ 100 ∧ ∀ k, (octInts c.1).any (· == k) = true → letters k = true
noncomputable def IEND : Chunk := (#[73, 69, 78, 68], #[])
theorem chunkB_app (c : Chunk) (R : Array UInt8) : chunkB c ++ R = ((be4 c.2.size).toArray ++ c.1) ++ (c.2 ++ ((be4 (crcOf c.1 c.2)).toArray ++ R)) := by simp [chunkB, crcOf, Array.append_assoc]
noncomputable def PairAt (tups : List (Addr × Obj)) (v : Value) (c : Chunk) : Prop := ∃ a u1 u2, v = .ref a ∧ (a, tupObj [.bytes c.1 u1, .bytes c.2 u2] 0) ∈ tups
theorem PairAt.sub {a b : List (Addr × Obj)} {v : Value} {c : Chunk} (h : PairAt a v c) (hs : ∀ p ∈ a, p ∈ b) : PairAt b v c := by
  obtain ⟨q, u1, u2, e, hm⟩ := h
  exact ⟨q, u1, u2, e, hs _ hm⟩
theorem All2.imp {α β : Type} {R S : α → β → Prop} {l : List α} {k : List β} (h : All2 R l k) (f : ∀ a b, R a b → S a b) : All2 S l k := by
  induction h with
  | nil => exact .nil
  | cons x _ ih => exact .cons (f _ _ x) ih
theorem All2.snoc {α β : Type} {R : α → β → Prop} {l : List α} {k : List β} {a : α} {b : β} (h : All2 R l k) (x : R a b) : All2 R (l ++ [a]) (k ++ [b]) := by
  induction h with
  | nil => exact .cons x .nil
  | cons y _ ih => exact .cons y ih
theorem letGo_gen {prog : Program} {w : World} {A : Around} {E : Value → Shared → Prop} {s : Shared} {elts : List Expr} {x1 : Nat} {pos : Pos} {G a : Addr} {n : Nat} {n1 n2 : Value} {Q : Unit → Shared → Prop} (hG : s.heap.get? G = some (genO n n1 n2)) (h : Q () s) :
    wpAny (model prog w) A (letOwnedTupleGo (.Tuple elts x1 pos) (.ref G) (.ref a)) Q E s := by
  unfold letOwnedTupleGo
  refine wpAny_bind (wpAny_load hG ?_)
  exact wpAny_pure h
theorem offs {l : List (Addr × Obj)} {a b : Addr} (h1 : a ∉ l.map (·.1)) (h2 : b ∉ l.map (·.1)) : OwnOff l [a, b] := by
  intro p hp q hq e
  simp only [List.mem_cons, List.not_mem_nil, or_false] at hq
  rcases hq with rfl | rfl
  · exact h1 (e ▸ List.mem_map_of_mem hp)
  · exact h2 (e ▸ List.mem_map_of_mem hp)
theorem off1 {l : List (Addr × Obj)} {a : Addr} (h1 : a ∉ l.map (·.1)) : OwnOff l [a] := by
  intro p hp q hq e
  simp only [List.mem_cons, List.not_mem_nil, or_false] at hq
  exact h1 (hq ▸ e ▸ List.mem_map_of_mem hp)
theorem perm9 {a b c d e f g : Addr × Obj} {l : List (Addr × Obj)} : ∀ p ∈ a :: b :: e :: f :: c :: d :: g :: l, p ∈ a :: b :: c :: d :: e :: f :: g :: l := fun p hp => by
  simp only [List.mem_cons] at hp ⊢
  rcases hp with h | h | h | h | h | h | h | h <;> simp [h]
theorem goodIEND : GoodC IEND := ⟨rfl, by decide, fun k hk => by
  simp [octInts, IEND] at hk
  rcases hk with rfl | rfl | rfl | rfl <;> decide⟩
theorem ne_all {l : List (Addr × Obj)} {a : Addr} (h : a ∉ l.map (·.1)) : ∀ p ∈ l, p.1 ≠ a := PyProof.Rows.apart_of_notMem h
theorem permC {y a b c d e g k : Addr × Obj} {l : List (Addr × Obj)} (f : Addr × Obj) : ∀ p ∈ f :: a :: b :: c :: d :: e :: g :: k :: l, p ∈ y :: a :: b :: c :: d :: e :: f :: g :: k :: l := fun p hp => by
  simp only [List.mem_cons] at hp ⊢
  rcases hp with h | h | h | h | h | h | h | h | h <;> simp [h]
theorem permA {y a b c d e f g k : Addr × Obj} {l : List (Addr × Obj)} : ∀ p ∈ g :: y :: f :: a :: b :: c :: d :: e :: k :: l, p ∈ y :: f :: a :: b :: c :: d :: e :: g :: k :: l := fun p hp => by
  simp only [List.mem_cons] at hp ⊢
  rcases hp with h | h | h | h | h | h | h | h | h | h <;> simp [h]
theorem permB {z a b c d e f g k : Addr × Obj} {l u : List (Addr × Obj)} : ∀ p ∈ a :: b :: c :: d :: e :: f :: g :: k :: (l ++ z :: u), p ∈ g :: z :: f :: a :: b :: c :: d :: e :: k :: (l ++ u) := fun p hp => by
  simp only [List.mem_cons, List.mem_append] at hp ⊢
  rcases hp with h | h | h | h | h | h | h | h | h | h | h <;> simp [h]
noncomputable abbrev lcE : Expr := .ListComp lawLc.1.1 [⟨lawLc.1.2.1, lawLc.1.2.2.1, [], 0⟩] lawLc.1.2.2.2.1 lawLc.1.2.2.2.2
noncomputable abbrev cenvL (cL L : Addr) : Env := { scope := lawLc.1.2.2.2.1, locals := cL, globals := mainGlobals, cells := [], qual := Str.ofString "law" ++ ".<locals>.", func := none, code := .ref 701, frame := some L, builtins := builtinsNs }

noncomputable def CInv (prog : Program) (w : World) (s₀ : Shared) (h₀ : Heap) (L : Addr) (m : Str → Option Value) (x dx r dr Lg G cL acc : Addr) (n : Nat) (tkO t1 t2 t3 t4 : Tok) (n1 n2 : Value) (rest : List (Addr × Obj)) (fs : List Chunk) (R : Array UInt8) (i : Nat) (s' : Shared) : Prop :=
  ∃ h tk gg gs q og mG oc mc tups vals nl SG pre t,
    s' = { s₀ with heap := h, toks := tk, gens := gg } ∧ gg[n]? = some gs ∧ (AllBare s₀.gens → AllBare gg) ∧ GAt prog w Lg mG gs q ∧ (∀ K, q = some K → ∃ j c, i = j + 1 ∧ fs[j]? = some c ∧ c.1 = K) ∧ (i ≠ 0 → (∃ K, q = some K) ∧ pre = #[]) ∧ NsO og mG ∧ mG (Str.ofString "self") = some (.ref r) ∧ NsO oc mc ∧
    Fr h₀ L h m ∧ News h₀ L h ((Lg, og) :: (x, instObj 126 dx) :: (dx, octObj w.params (pre ++ (chunksB (fs.drop i) ++ R)) t tkO) :: (r, instObj 651 dr) :: (dr, rdObj w.params SG .none x t1 t2 t3 t4) :: (cL, oc) :: (acc, lstObj vals nl) :: (G, genO n n1 n2) :: (rest ++ tups)) ∧ Sig SG pre ∧ pre.size ≤ 8 ∧ i ≤ fs.length ∧ All2 (PairAt tups) vals (fs.take i) ∧ (∀ p ∈ tups, p.1 ∉ (Lg :: x :: dx :: r :: dr :: cL :: acc :: G :: rest.map (·.1)))
theorem comp_turn {prog : Program} {w : World} {p : Program} {loose : List Str} {mean : ExcName → Option Value} {mg mb : Str → Option Value}
  {dp un : Nat} {gd : Option (List Code)} {cl : List (Str × Addr)} {outer : List Env} {A₀ : Around} {base h₀ : Heap} {L : Addr} {m : Str → Option Value} {s : Shared} {Q E : Value → Shared → Prop} {s₀ : Shared} {x dx r dr Lg G cL acc : Addr} {n : Nat} {tkO t1 t2 t3 t4 : Tok} {n1 n2 : Value} {rest : List (Addr × Obj)} {ks fs : List Chunk} {R : Array UInt8} {i : Nat} {Rr : Result → Shared → Prop} {I : Nat → Shared → Prop}
  (B : Below A₀ base outer h₀) (X : (Kc w.params).In h₀) (T : Top p loose mean mg mb h₀) (hd : dp ≤ 350) (hu : un ≤ 330) (nd : (Lg :: x :: dx :: r :: dr :: cL :: acc :: G :: rest.map (·.1)).Nodup) (hlt : @LT.lt Nat _ L Lg)
  (hfs : fs = ks ++ [IEND]) (hks : ∀ c ∈ ks, GoodC c ∧ c.1.toList ≠ [73, 69, 78, 68]) (hz : (chunksB fs).size + R.size ≤ 90000) (hn : fs.length ≤ 1000)
  (hI : CInv prog w s₀ h₀ L m x dx r dr Lg G cL acc n tkO t1 t2 t3 t4 n1 n2 rest fs R i s)
  (next : i < fs.length → ∀ s', CInv prog w s₀ h₀ L m x dx r dr Lg G cL acc n tkO t1 t2 t3 t4 n1 n2 rest fs R (i + 1) s' → ∃ k, k < fs.length + 1 - i ∧ I k s')
  (done : ∀ h tk gg oc mc tups vals nl t us, (AllBare s₀.gens → AllBare gg) → NsO oc mc → Fr h₀ L h m →
    News h₀ L h ((x, instObj 126 dx) :: (dx, octObj w.params R t tkO) :: (cL, oc) :: (acc, lstObj vals nl) :: (r, instObj 651 dr) :: (dr, rdObj w.params us .none x t1 t2 t3 t4) :: (G, genO n n1 n2) :: (rest ++ tups)) → All2 (PairAt tups) vals fs → (∀ p ∈ tups, p.1 ∉ (Lg :: x :: dx :: r :: dr :: cL :: acc :: G :: rest.map (·.1))) → Rr (.ok .next) { s₀ with heap := h, toks := tk, gens := gg }) :
  wpH (model prog w) (ktrTop dp un gd (Str.ofString "law") s702.1 L 702 (.ref 701) cl outer) (pyNext (.ref G)) (fun r s₁ => match r with
      | none => Rr (.ok .next) s₁
      | some v => wpAny (model prog w) (ktrTop dp un gd (Str.ofString "law") s702.1 L 702 (.ref 701) cl outer) (letOwnedTupleGo lawLc.1.2.1 (.ref G) v) (fun _ s₂ => wpAny (model prog w) (ktrTop dp un gd (Str.ofString "law") s702.1 L 702 (.ref 701) cl outer) (assign lawLc.1.2.1 (cenvL cL L) v) (fun _ s₂ => wpAny (model prog w) (ktrTop dp un gd (Str.ofString "law") s702.1 L 702 (.ref 701) cl outer) (eval lawLc.1.1 (cenvL cL L)) (fun x s₃ =>
          wpAny (model prog w) (ktrTop dp un gd (Str.ofString "law") s702.1 L 702 (.ref 701) cl outer) (call (.builtin "list.append") [.ref acc, x]) (fun _ s₄ => ∃ k, k < fs.length + 1 - i ∧ I k s₄) (fun _ _ => False) s₃)
          (fun _ _ => False) s₂) (fun _ _ => False) s₂) (fun _ _ => False) s₁) (fun _ _ => False) s := by
  obtain ⟨h, tk, gg, gs, q, og, mG, oc, mc, tups, vals, nl, SG, pre, t, rfl, hg, hb, hG, hq, hq0, ng, hself, nc, F, N, hsig, hpre, hi, hvals, htups⟩ := hI
  have hGg := (N _ (.tail _ (.tail _ (.tail _ (.tail _ (.tail _ (.tail _ (.tail _ (.head _))))))))).1
  simp only [List.nodup_cons, List.mem_cons, not_or] at nd
  obtain ⟨⟨a1, a2, a3, a4, a5, a6, a7, a8⟩, ⟨b1, b2, b3, b4, b5, b6, b7⟩, ⟨c1, c2, c3, c4, c5, c6⟩, ⟨d1, d2, d3, d4, d5⟩, ⟨e1, e2, e3, e4⟩, ⟨f1, f2, f3⟩, ⟨g1, g2⟩, g3, _⟩ := nd
  have tn : ∀ {z : Addr}, z ∈ (Lg :: x :: dx :: r :: dr :: cL :: acc :: G :: rest.map (·.1)) → z ∉ tups.map (·.1) := fun hz hm => by
    obtain ⟨p, hp, rfl⟩ := List.mem_map.mp hm
    exact htups p hp hz
  have kE : ∀ j c, j < ks.length → fs[j]? = some c → GoodC c ∧ c.1.toList ≠ [73, 69, 78, 68] := fun j c hj hc => by
    rw [hfs, List.getElem?_append_left hj] at hc
    exact hks c (List.mem_of_getElem? hc)
  have lE : fs[ks.length]? = some IEND := by rw [hfs]; simp
  have lF : fs.length = ks.length + 1 := by rw [hfs]; simp
  by_cases hlt2 : i < fs.length
  · obtain ⟨c, hc⟩ : ∃ c, fs[i]? = some c := ⟨fs[i], by simp [hlt2]⟩
    have hdrop : fs.drop i = c :: fs.drop (i + 1) := by
      rw [List.drop_eq_getElem_cons hlt2]
      rw [List.getElem?_eq_getElem hlt2] at hc
      rw [Option.some.inj hc]
    have hgc : GoodC c := by
      by_cases hi : i < ks.length
      · exact (kE i c hi hc).1
      · have : i = ks.length := by omega
        rw [this, lE] at hc
        rw [← Option.some.inj hc]
        exact goodIEND
    have hXs : ((be4 c.2.size).toArray ++ c.1).size = 8 := by
      have h1 := hgc.1
      simp only [Array.size_append, List.size_toArray, be4_len]
      omega
    have eO : pre ++ (chunksB (fs.drop i) ++ R) = pre ++ (((be4 c.2.size).toArray ++ c.1) ++ (c.2 ++ ((be4 (crcOf c.1 c.2)).toArray ++ (chunksB (fs.drop (i + 1)) ++ R)))) := by
      rw [hdrop, chunksB_cons, Array.append_assoc, chunkB_app]
    have hzz : (pre ++ (((be4 c.2.size).toArray ++ c.1) ++ (c.2 ++ ((be4 (crcOf c.1 c.2)).toArray ++ (chunksB (fs.drop (i + 1)) ++ R))))).size ≤ 100000 := by
      rw [← eO]
      have h2 : (chunksB (fs.drop i)).size ≤ (chunksB fs).size := by
        conv => rhs; rw [← List.take_append_drop i fs, chunksB_append]
        simp
      simp only [Array.size_append]
      omega
    have hq2 : ∀ K₀, q = some K₀ → K₀.toList ≠ [73, 69, 78, 68] := fun K₀ hK₀ => by
      obtain ⟨j, c', e, hj, hcK⟩ := hq K₀ hK₀
      rw [← hcK]
      exact (kE j c' (by omega) hj).2
    rw [eO] at N
    have oA : ∀ {z : Addr}, z ∈ (Lg :: x :: dx :: r :: dr :: cL :: acc :: G :: rest.map (·.1)) → ¬ z = cL → ¬ z = acc → ¬ z = G → z ∉ rest.map (·.1) → z ∉ (List.map (·.1) ((cL, oc) :: (acc, lstObj vals nl) :: (G, genO n n1 n2) :: (rest ++ tups))) := fun hz h1 h2 h3 h4 => by
      simp only [List.map_cons, List.map_append, List.mem_cons, List.mem_append, not_or]
      exact ⟨h1, h2, h3, h4, tn hz⟩
    refine nextMore B F X N T rfl b1 d1 (Ne.symm b2) (Ne.symm c1) (Ne.symm b3) (Ne.symm c2) (offs (oA (by simp) b4 b5 b6 b7) (oA (by simp) c3 c4 c5 c6)) (offs (oA (by simp) d2 d3 d4 d5) (oA (by simp) e1 e2 e3 e4)) (by omega) (by omega) hzz hsig hXs rfl hgc.1 (by have := hgc.2.1; omega) rfl hgc.2.2 hg hG hq2 ng hself hlt (genO_is hGg) (Ne.symm a1) (Ne.symm a2) (Ne.symm a3) (Ne.symm a4) (off1 (oA (by simp) a5 a6 a7 a8)) ?_
    intro y og' mG' gs' gg' h' tk' t' us u1 u2 k1 k2 k3 G' ng' hs' F' N' l9 hyL
    obtain ⟨lx, ldx, lr, ldr, lrest⟩ := l9
    have hG2 := (N' _ (.tail _ (.tail _ (.tail _ (.tail _ (.tail _ (.tail _ (.tail _ (.tail _ (.head _)))))))))).1
    refine letGo_gen hG2 ?_
    refine unpackN_ F' N' (News.isTup N' (.head _)) rfl rfl rfl ?_
    intro h2 F2 N2
    refine wpAny_assignInOrder_more (wpAny_assign_Name ?_)
    have N3 := news_sub N2 (permC (cL, oc))
    have hapC : ∀ p ∈ ((Lg, og') :: (x, instObj 126 dx) :: (dx, octObj w.params (chunksB (List.drop (i + 1) fs) ++ R) t' tkO) :: (r, instObj 651 dr) :: (dr, rdObj w.params (Value.bytes sigB us) Value.none x t1 t2 t3 t4) :: (acc, lstObj vals nl) :: (G, genO n n1 n2) :: (rest ++ tups)), p.1 ≠ cL := ne_all (by
      simp only [List.map_cons, List.map_append, List.mem_cons, List.mem_append, not_or]
      exact ⟨Ne.symm a5, Ne.symm b4, Ne.symm c3, Ne.symm d2, Ne.symm e1, f1, f2, f3, tn (by simp)⟩)
    refine store_ns (env := cenvL cL L) rfl rfl F2 N3 nc hapC ?_
    intro h3 oc3 nc3 F3 N4
    refine wpAny_assignInOrder_more (wpAny_assign_Name ?_)
    refine store_ns (env := cenvL cL L) rfl rfl F3 N4 nc3 hapC ?_
    intro h5 oc5 nc5 F5 N5
    refine wpAny_assignInOrder_none ?_
    refine Tuple_ (spliced_more (name_ns (v := .bytes c.1 u1) rfl rfl N5 nc5 rfl (spliced_more (name_ns (v := .bytes c.2 u2) rfl rfl N5 nc5 rfl (spliced_none ?_)))))
    refine newTuple_N F5 N5 ?_
    intro h6 F6 N6
    have hz6 : h5.objs.size ∉ (Lg :: x :: dx :: r :: dr :: cL :: acc :: G :: rest.map (·.1)) := fun hm => by
      have hm2 : h5.objs.size ∈ ((cL, oc5) :: (Lg, og') :: (x, instObj 126 dx) :: (dx, octObj w.params (chunksB (List.drop (i + 1) fs) ++ R) t' tkO) :: (r, instObj 651 dr) :: (dr, rdObj w.params (Value.bytes sigB us) Value.none x t1 t2 t3 t4) :: (acc, lstObj vals nl) :: (G, genO n n1 n2) :: (rest ++ tups)).map (·.1) := by
        simp only [List.map_cons, List.map_append, List.mem_cons, List.mem_append] at hm ⊢
        rcases hm with h | h | h | h | h | h | h | h | h <;> simp [h]
      obtain ⟨p, hp, e⟩ := List.mem_map.mp hm2
      have h9 := Heap.lt_size (N5 p hp).1
      rw [e] at h9
      exact Nat.lt_irrefl _ h9
    have N7 := news_sub N6 permA
    refine append_K F6 N7 (Upd.head (ne_all ?_)) ?_ ?_
    · simp only [List.map_cons, List.map_append, List.mem_cons, List.mem_append, not_or]
      exact ⟨fun e => hz6 (by simp [← e]), Ne.symm f1, Ne.symm a6, Ne.symm b5, Ne.symm c4, Ne.symm d3, Ne.symm e2, g1, g2, tn (by simp)⟩
    · intro h7 F7 N8
      refine next hlt2 _ ⟨h7, tk' + 1 + 1, gg', gs', some c.1, og', mG', oc5, _, (h5.objs.size, tupObj [.bytes c.1 u1, .bytes c.2 u2] 0) :: tups, vals ++ [.ref h5.objs.size], nl + 1, .bytes sigB us, #[], t', rfl, k1, fun hx => k3 (hb hx), G', fun K hK => ⟨i, c, rfl, hc, Option.some.inj hK⟩, fun _ => ⟨⟨_, rfl⟩, rfl⟩, ng', hs', nc5, F7, ?_, .some us, by decide, hlt2, ?_, ?_⟩
      · rw [Array.empty_append]
        rw [List.push_toArray] at N8
        exact news_sub N8 permB
      · rw [take_snoc hc]
        exact (hvals.imp fun v c h => h.sub fun p hp => .tail _ hp).snoc ⟨_, u1, u2, rfl, .head _⟩
      · intro p hp
        rcases List.mem_cons.mp hp with rfl | hp
        · exact hz6
        · exact htups p hp
    · have := hvals.length
      rw [List.length_take] at this
      show vals.toArray.size ≤ sizeLine
      rw [List.size_toArray, this]
      exact Nat.le_trans (Nat.min_le_right _ _) (Nat.le_trans hn (by decide))
  · have hi2 : i = fs.length := by omega
    have hi0 : i ≠ 0 := by omega
    obtain ⟨⟨K, rfl⟩, rfl⟩ := hq0 hi0
    obtain ⟨j, c, e, hj, hcK⟩ := hq K rfl
    have hjk : j = ks.length := by omega
    rw [hjk, lE] at hj
    have hKI : K.toList = [73, 69, 78, 68] := by rw [← hcK, ← Option.some.inj hj]; rfl
    have hdr : fs.drop i = [] := by rw [hi2]; exact List.drop_length
    have eR : (#[] ++ (chunksB [] ++ R) : Array UInt8) = R := by simp [chunksB]
    rw [hdr, eR] at N
    refine nextStop B F X N T rfl (by omega) (by omega) hg hG hKI ng hself hlt (genO_is hGg) (off1 ?_) ?_
    · simp only [List.map_cons, List.map_append, List.mem_cons, List.mem_append, not_or]
      exact ⟨a1, a2, a3, a4, a5, a6, a7, a8, tn (.head _)⟩
    · intro gg' h' tk' e1 e2 F' N'
      have hv2 : fs.take i = fs := by rw [hi2]; exact List.take_length
      rw [hv2] at hvals
      exact done h' tk' gg' oc mc tups vals nl t SG (fun hx => e2 (hb hx)) nc F' (news_sub N' perm9) hvals htups
end Mine
end
-- M15
section
open PySem PySem.W PySem.W.X PyProof.Rows PySem.Calls PySem.Spec
set_option Elab.async false
set_option maxRecDepth 100000
set_option maxHeartbeats 4000000
namespace Mine
theorem warm15 : (PySem.Challenge.rw_ar0037_04 = PySem.Challenge.rw_ar0037_04) ∧ (∀ P, Kc P = Kc P) := by
  k_fill
  exact ⟨rfl, fun _ => rfl⟩

theorem permI {a b c d e f g k : Addr × Obj} {l : List (Addr × Obj)} : ∀ p ∈ d :: g :: k :: e :: f :: a :: b :: c :: l, p ∈ a :: b :: c :: d :: e :: f :: g :: k :: l := fun p hp => by
  simp only [List.mem_cons] at hp ⊢
  rcases hp with h | h | h | h | h | h | h | h | h <;> simp [h]
theorem permD {a b c d e f g : Addr × Obj} {l : List (Addr × Obj)} : ∀ p ∈ a :: b :: d :: l, p ∈ a :: b :: c :: d :: e :: f :: g :: l := fun p hp => by
  simp only [List.mem_cons] at hp ⊢
  rcases hp with h | h | h | h <;> simp [h]
theorem nodup_fix {x dx dr r Lg G a c : Nat} {l : List Nat} (nd : (x :: dx :: l).Nodup) (hl : ∀ a ∈ l, a < dr) (h1 : x < dr) (h2 : dx < dr) (h3 : dr < r) (h4 : r < Lg) (h5 : Lg < G) (h6 : G < a) (h7 : a < c) : (Lg :: x :: dx :: r :: dr :: c :: a :: G :: l).Nodup := by
  have nx : ∀ {a : Nat}, dr ≤ a → a ∉ l := fun ha hm => absurd (hl _ hm) (Nat.not_lt.mpr ha)
  simp only [List.nodup_cons, List.mem_cons, not_or] at nd ⊢
  obtain ⟨⟨n0, n01⟩, n02, n03⟩ := nd
  refine ⟨⟨?_, ?_, ?_, ?_, ?_, ?_, ?_, nx ?_⟩, ⟨n0, ?_, ?_, ?_, ?_, ?_, n01⟩, ⟨?_, ?_, ?_, ?_, ?_, n02⟩, ⟨?_, ?_, ?_, ?_, nx ?_⟩, ⟨?_, ?_, ?_, nx ?_⟩, ⟨?_, ?_, nx ?_⟩, ⟨?_, nx ?_⟩, nx ?_, n03⟩ <;> omega

theorem comp_spec {prog : Program} {w : World} {p : Program} {loose : List Str} {mean : ExcName → Option Value} {mg mb : Str → Option Value}
  {dp un : Nat} {gd : Option (List Code)} {cl : List (Str × Addr)} {outer : List Env} {A₀ : Around} {base h₀ : Heap} {L : Addr} {m : Str → Option Value} {s : Shared} {Q E : Value → Shared → Prop} {x dx : Addr} {t tkO : Tok} {ks : List Chunk} {R : Array UInt8} {rest : List (Addr × Obj)}
  (B : Below A₀ base outer h₀) (F : Fr h₀ L s.heap m) (X : (Kc w.params).In h₀) (N : News h₀ L s.heap ((x, instObj 126 dx) :: (dx, octObj w.params (sigB ++ (chunksB (ks ++ [IEND]) ++ R)) t tkO) :: rest)) (T : Top p loose mean mg mb h₀) (hm : m (Str.ofString "stream") = some (.ref x)) (nd : (x :: dx :: rest.map (·.1)).Nodup) (hd : dp ≤ 350) (hu : un ≤ 330)
  (hks : ∀ c ∈ ks, GoodC c ∧ c.1.toList ≠ [73, 69, 78, 68]) (hz : (chunksB (ks ++ [IEND])).size + R.size ≤ 90000) (hn : ks.length + 1 ≤ 1000)
  (ret : ∀ acc vals nl tups h' tk' gg t', (AllBare s.gens → AllBare gg) → Fr h₀ L h' m → News h₀ L h' ((x, instObj 126 dx) :: (dx, octObj w.params R t' tkO) :: (acc, lstObj vals nl) :: (rest ++ tups)) →
     All2 (PairAt tups) vals (ks ++ [IEND]) → (∀ p ∈ tups, p.1 ∉ (acc :: x :: dx :: rest.map (·.1))) → acc ∉ (x :: dx :: rest.map (·.1)) → Q (.ref acc) { s with heap := h', toks := tk', gens := gg }) :
  wpH (model prog w) (ktrTop dp un gd (Str.ofString "law") s702.1 L 702 (.ref 701) cl outer) (eval lawIf.1.1 (envX (Str.ofString "law") s702.1 L 702 (.ref 701) cl)) Q E s := by
  rw [lawLc.2]
  refine listCompH (by decide) rfl (by decide) ?_
  refine comp_iter B F X N T hm (by omega) (by omega) ?_
  intro G Lg og h1 tk1 n1 n2 mG r dr t1 t2 t3 t4 ng hs F1 N1 l1 l2 l3 l4 l5
  refine wpAny_pyIter_gen (genO_is (N1 _ (.head _)).1) ?_
  refine newList_N F1 N1 ?_
  intro h2 F2 N2
  refine wpAny_newFunctionEnv (by decide) (fun x hx => nomatch hx) (fun h3 hns hsb => ?_) rfl
  have hk3 : ∀ b o, h2.get? b = some o → h3.get? b = some o := fun b o e => hsb.extBut b o (Nat.ne_of_lt (Heap.lt_size e)) (Heap.get?_push_of_some _ e)
  obtain ⟨oc, hoc, nc⟩ := nsO_of hns
  have F3 := F2.keeps hk3
  have acc_lt : h1.objs.size < h2.objs.size := Heap.lt_size (N2 _ (.head _)).1
  have G_lt : G < h1.objs.size := Heap.lt_size (N1 _ (.head _)).1
  have hxd : x < dr := l1 _ (.head _)
  have hdxd : dx < dr := l1 _ (.tail _ (.head _))
  have hrd : ∀ a ∈ rest.map (·.1), a < dr := fun a ha => by
    obtain ⟨p, hp, rfl⟩ := List.mem_map.mp ha
    exact l1 p (.tail _ (.tail _ hp))
  have fs_l : (ks ++ [IEND]).length = ks.length + 1 := by simp
  have ndF : (Lg :: x :: dx :: r :: dr :: h2.objs.size :: h1.objs.size :: G :: rest.map (·.1)).Nodup := by
    exact nodup_fix nd hrd hxd hdxd l2 l3 l5 G_lt acc_lt
  have N4 : News h₀ L h3 ((h2.objs.size, oc) :: (h1.objs.size, lstObj [] 0) :: (G, genO s.gens.size n1 n2) :: (Lg, og) :: (r, instObj 651 dr) :: (dr, rdObj w.params .none .none x t1 t2 t3 t4) :: (x, instObj 126 dx) :: (dx, octObj w.params (sigB ++ (chunksB (ks ++ [IEND]) ++ R)) t tkO) :: rest) := fun p hp => by
    rcases List.mem_cons.mp hp with rfl | hp
    · exact ⟨hoc, L_ne (s := { s with heap := h2 }) F2 size_none, none_of_new (s := { s with heap := h2 }) F2 size_none⟩
    · exact (N2.grown hk3) p hp
  have I0 : CInv prog w s h₀ L m x dx r dr Lg G h2.objs.size h1.objs.size s.gens.size tkO t1 t2 t3 t4 n1 n2 rest (ks ++ [IEND]) R 0 { s with heap := h3, toks := tk1, gens := s.gens.push (.fresh (.func b477.1 (envG Lg))) } := by
    unfold CInv
    refine ⟨h3, tk1, s.gens.push (.fresh (.func b477.1 (envG Lg))), .fresh (.func b477.1 (envG Lg)), none, og, mG, oc, _, [], [], 0, .none, sigB, t, ?_, ?_, ?_, ?_, ?_, ?_, ng, hs, nc, F3, ?_, ?_, ?_, ?_, ?_, ?_⟩
    · rfl
    · exact Array.getElem?_push_size
    · exact fun hb => hb.push rfl
    · exact .fresh
    · exact fun _ h => nomatch h
    · exact fun h => absurd rfl h
    · rw [List.append_nil, List.drop_zero]
      exact news_sub N4 permI
    · exact .none
    · exact (show 8 ≤ 8 from Nat.le_refl _)
    · exact Nat.zero_le _
    · exact .nil
    · exact fun _ h => nomatch h
  have key : codeH (model prog w) (ktrTop dp un gd (Str.ofString "law") s702.1 L 702 (.ref 701) cl outer) (.compLoop lcE 0 (.ref G) (.ref h1.objs.size) (cenvL h2.objs.size L)) (fun r s' => (∃ f, r = .ok f) ∧ ∃ m, s'.heap.Ns h2.objs.size m ∧ ∀ h', Heap.SameBut h2.objs.size s'.heap h' →
          Q (.ref h1.objs.size) { s' with heap := h' }) { s with heap := h3, toks := tk1, gens := s.gens.push (.fresh (.func b477.1 (envG Lg))) } := by
    refine codeH_compLoop (fun k s' => ∃ i, k + i = ks.length + 2 ∧ CInv prog w s h₀ L m x dx r dr Lg G h2.objs.size h1.objs.size s.gens.size tkO t1 t2 t3 t4 n1 n2 rest (ks ++ [IEND]) R i s') ?_ (ks.length + 2) ⟨0, rfl, I0⟩
    intro k s' hI
    obtain ⟨i, hk, hI⟩ := hI
    have ek : k = (ks ++ [IEND]).length + 1 - i := by omega
    subst ek
    refine comp_turn (Q := Q) (E := E) (gd := gd) (cl := cl) (Rr := fun r s' => (∃ f, r = .ok f) ∧ ∃ m, s'.heap.Ns h2.objs.size m ∧ ∀ h', Heap.SameBut h2.objs.size s'.heap h' → Q (.ref h1.objs.size) { s' with heap := h' }) (I := (fun k s' => ∃ i, k + i = ks.length + 2 ∧ CInv prog w s h₀ L m x dx r dr Lg G h2.objs.size h1.objs.size s.gens.size tkO t1 t2 t3 t4 n1 n2 rest (ks ++ [IEND]) R i s')) B X T hd hu ndF l4 rfl hks hz (by omega) hI (fun hi s'' hI' => ⟨(ks ++ [IEND]).length - i, by omega, i + 1, by omega, hI'⟩) ?_
    intro h tk gg oc mc tups vals nl t us hb nc F N hv ht
    refine ⟨⟨_, rfl⟩, mc, nc.ns (N _ (.tail _ (.tail _ (.head _)))).1, fun h' hsame => ?_⟩
    have hc0 := N _ (.tail _ (.tail _ (.head _)))
    simp only [List.nodup_cons, List.mem_cons, not_or] at ndF
    obtain ⟨⟨a1, a2, a3, a4, a5, a6, a7, a8⟩, ⟨b1, b2, b3, b4, b5, b6, b7⟩, ⟨c1, c2, c3, c4, c5, c6⟩, ⟨d1, d2, d3, d4, d5⟩, ⟨e1, e2, e3, e4⟩, ⟨f1, f2, f3⟩, ⟨g1, g2⟩, g3, _⟩ := ndF
    refine ret h1.objs.size vals nl tups h' tk gg t hb (F.change hsame hc0.2.1 hc0.2.2) (fun q hq => ?_) hv (fun q hq => ?_) ?_
    · have hq2 : q ∈ (x, instObj 126 dx) :: (dx, octObj w.params R t tkO) :: (h2.objs.size, oc) :: (h1.objs.size, lstObj vals nl) :: (r, instObj 651 dr) :: (dr, rdObj w.params us .none x t1 t2 t3 t4) :: (G, genO s.gens.size n1 n2) :: (rest ++ tups) := permD _ hq
      have hne : q.1 ≠ h2.objs.size := by
        simp only [List.mem_cons, List.mem_append] at hq
        rcases hq with rfl | rfl | rfl | hq | hq
        · exact b4
        · exact c3
        · exact Ne.symm f1
        · exact fun e => f3 (e ▸ List.mem_map_of_mem hq)
        · exact fun e => ht q hq (by simp [e])
      exact ⟨(hsame.2 _ hne).trans (N q hq2).1, (N q hq2).2⟩
    · have := ht q hq
      simp only [List.mem_cons, not_or] at this ⊢
      exact ⟨this.2.2.2.2.2.2.1, this.2.1, this.2.2.1, this.2.2.2.2.2.2.2.2⟩
    · simp only [List.mem_cons, not_or]
      exact ⟨Ne.symm b5, Ne.symm c4, g2⟩
  exact codeH_compStart key (wpAny_pyIter_gen (genO_is (N4 _ (.tail _ (.tail _ (.head _)))).1) key)
end Mine
end
-- G5
section
open PySem PySem.W PySem.W.X PyProof.Rows PySem.Calls PySem.Spec
set_option Elab.async false
set_option maxRecDepth 100000
set_option maxHeartbeats 4000000
namespace Mine
section
variable {M : Model} {A : Around} {E : Value → Shared → Prop} {s : Shared} {env : Env}
/-- if (left op r): the left side over wpH, the rest by the kit -/
theorem IfCmpH {l r : Expr} {op : CmpOp} {cpos pos : Pos} {body orelse : List Stmt} {Q : Flow → Shared → Prop}
    (h : wpH M A (eval l env) (fun a s₁ => wpAny M A (eval r env) (fun b s₂ => wpAny M A (compareOp op a b) (fun c s₃ => wpAny M A (truthy c)
      (fun t s₄ => if t = true then wpH M A (execs body env) Q E s₄ else wpH M A (execs orelse env) Q E s₄) E s₃) E s₂) E s₁) E s)
    (hm : behindInMarks op r = false := by with_unfolding_all rfl) : wpH M A (exec (.If (.Compare l [op] [r] cpos) body orelse pos) env) Q E s := by
  rw [arm_exec_If, isTrue_Compare1, markedBehindIn_of_false hm]
  refine wpH_bind (wpH_standAt (wpH_bind ?_))
  refine wpH_bind (wpH_mono h (fun a s₁ h₁ => ?_) fun _ _ x => x)
  intro Γ p hΓ q1 q2
  simp only [Sem.wp_bind', Sem.wp_holding, Sem.wp_cmd_standAt, Sem.wp_operate]
  refine Sem.wp_mono M Γ _ (fun b p₂ s₂ h₂ => ?_) (fun _ _ _ x => x) _ _ (h₁ Γ _ hΓ)
  refine Sem.wp_mono M Γ _ (fun c p₃ s₃ h₃ => ?_) (fun _ _ _ x => x) _ _ (h₂ Γ _ hΓ)
  refine Sem.wp_mono M Γ _ (fun t p₄ s₄ h₄ => ?_) (fun _ _ _ x => x) _ _ (h₃ Γ _ hΓ)
  cases t
  · show wpH M A (execs orelse env) Q E s₄
    exact h₄
  · show wpH M A (execs body env) Q E s₄
    exact h₄
theorem ForH {target iter : Expr} {body orelse : List Stmt} {pos : Pos} {Q : Flow → Shared → Prop}
    (h : wpAny M A (eval iter env) (fun x s₁ => wpAny M A (pyIter x) (fun it s₂ =>
      codeH M A (.forLoop target it body orelse env) (fun r s' => ∃ f, r = .ok f ∧ Q f s') s₂) E s₁) E s)
    (hs : ∀ x, foldedSetIterable iter env x = pure x := by intro _; rfl) :
    wpH M A (exec (.For target iter body orelse pos) env) Q E s := by
  rw [exec_For]
  refine wpH_bind (wpH_standAt (wpH_bind (.of_any (wpAny_mono h (fun x s₁ h₁ => ?_) fun _ _ x => x))))
  refine wpH_bind (.of_any (wpAny_of_eq (hs x) (wpH_bind (wpH_standAt (wpH_bind (wpH_holding (.of_any (wpAny_mono h₁ (fun it s₂ h₂ => ?_) fun _ _ x => x))))))))
  unfold runOwn
  refine wpH_onRaise (wpH_run (codeH_mono h₂ fun r s' hr => ?_))
  obtain ⟨f, rfl, hq⟩ := hr
  exact hq
end
section
variable {prog : Program} {w : World} {A : Around} {s : Shared} {R : Result → Shared → Prop}
theorem codeH_block {stmts : List Stmt} {env : Env} (h : wpH (model prog w) A (execs stmts env) (fun f s' => R (.ok f) s') (fun _ _ => False) s) : codeH (model prog w) A (.block stmts env) R s := by
  refine codeH_of_tree rfl ?_
  show wpH _ _ (do return Fin.done (← (execs stmts env).onRaise (fun x => do noteFrame x env; theTreesLotGoes x))) _ _ s
  exact wpH_bind (wpH_noFail (wpH_mono h (fun f s' h' => wpH_pure h') fun _ _ h' => h'))
theorem codeH_forLoop {target : Expr} {it : Value} {body orelse : List Stmt} {env : Env} (I : Nat → Shared → Prop)
    (turn : ∀ n s, I n s → wpAny (model prog w) A (pyNext it) (fun r s₁ => match r with
      | none => wpH (model prog w) A (execs orelse env) (fun f s₃ => R (.ok f) s₃) (fun _ _ => False) s₁
      | some v => wpAny (model prog w) A (assign target env v) (fun _ s₂ => wpH (model prog w) A (execs body env) (fun f s₃ => match f with
          | .next | .cont => ∃ m, m < n ∧ I m s₃
          | .brk => R (.ok .next) s₃
          | .ret v => R (.ok (.ret v)) s₃) (fun _ _ => False) s₂) (fun _ _ => False) s₁) (fun _ _ => False) s)
    (n : Nat) (h : I n s) (ht : ∀ v, letOwnedTupleGo target it v = pure () := by intro _; rfl) : codeH (model prog w) A (.forLoop target it body orelse env) R s := by
  refine codeH_loop rfl rfl I (fun n s hI => ?_) n h
  show wpH _ A ((forTurn target it body orelse env).onRaise (fun x => do noteFrame x env; theTreesLotGoes x)) _ _ s
  refine wpH_noFail ?_
  simp only [forTurn]
  refine wpH_bind (wpH_standAt (wpH_bind (wpH_onRaise (.of_any (wpAny_mono (turn n s hI) (fun r s₁ h₁ => ?_) fun _ _ h' => h'.elim)))))
  cases r with
  | none => exact wpH_pure (.inr ⟨rfl, codeH_block h₁⟩)
  | some v =>
    refine wpH_bind (.of_any (wpAny_of_eq (ht v) ?_))
    refine wpH_bind (.of_any (wpAny_mono h₁ (fun _ s₂ h₂ => ?_) fun _ _ h' => h'))
    refine wpH_bind (wpH_mono h₂ (fun f s₃ h₃ => ?_) fun _ _ h' => h')
    cases f with
    | next => exact wpH_pure (.inl ⟨rfl, h₃⟩)
    | cont => exact wpH_pure (.inl ⟨rfl, h₃⟩)
    | brk => exact wpH_pure h₃
    | ret v => exact wpH_pure h₃
end
/-- equality of lists of pairs of bytes -/
theorem eqAt_bytes {A : Around} {s : Shared} {b : Array UInt8} {t u : Tok} : SeqAt.EqAt A s (.bytes b t) (.bytes b u) true := fun prog w E Q h => eqBool_bytes (by simpa using h)
theorem eqAt_pair {A : Around} {s : Shared} {a b : Addr} {x y : Array UInt8} {t1 t2 t3 t4 : Tok} (h1 : s.heap.IsTuple a #[.bytes x t1, .bytes y t2]) (h2 : s.heap.IsTuple b #[.bytes x t3, .bytes y t4]) (hu : A.units < cLine) : SeqAt.EqAt A s (.ref a) (.ref b) true := by
  by_cases e : a = b
  · subst e; exact SeqAt.EqAt.same _
  · have := SeqAt.RcAt.tuples (A := A) (s := s) (e := fun _ => true) h1 h2 hu (fun j k1 k2 => by
      have : j = 0 ∨ j = 1 := by simp at k1; omega
      rcases this with rfl | rfl <;> exact eqAt_bytes)
    exact SeqAt.EqAt.of_refs e this
theorem ne_lists {prog : Program} {w : World} {A : Around} {E : Value → Shared → Prop} {s : Shared} {a b : Addr} {xs ys : List Value} {Q : Value → Shared → Prop} (h1 : s.heap.IsList a xs.toArray) (h2 : s.heap.IsList b ys.toArray) (hl : xs.length = ys.length)
    (he : ∀ j (k1 : j < xs.length) (k2 : j < ys.length), SeqAt.EqAt A.in1 s xs[j] ys[j] true) (hu : A.units < cLine) (h : Q (.bool false) s) : wpAny (model prog w) A (compareOp .NotEq (.ref a) (.ref b)) Q E s := by
  have := SeqAt.RcNeAt.lists (A := A) (s := s) (e := fun _ => true) h1 h2 (by simpa using hl) hu (fun j k1 k2 => by simpa using he j (by simpa using k1) (by simpa using k2))
  rw [List.all_eq_true.mpr (fun _ _ => rfl)] at this
  exact this prog w E Q h
end Mine
end
-- M16
section
open PySem PySem.W PySem.W.X PyProof.Rows PySem.Calls PySem.Spec
set_option Elab.async false
set_option maxRecDepth 100000
set_option maxHeartbeats 4000000
namespace Mine
theorem warm16 : (PySem.Challenge.rw_ar0037_04 = PySem.Challenge.rw_ar0037_04) ∧ (∀ P, Kc P = Kc P) := by
  k_fill
  exact ⟨rfl, fun _ => rfl⟩

theorem sz_ok {n : Nat} (h : n ≤ 1000) : n + (0 + 1) ≤ sizeLine := Nat.le_trans (Nat.add_le_add_right h 1) (by decide)
/-- a pair of bytes of the ledger -/
noncomputable def PairN (news : List (Addr × Obj)) (v : Value) (c : Chunk) : Prop := ∃ a n u1 u2, v = .ref a ∧ (a, tupObj [.bytes c.1 u1, .bytes c.2 u2] n) ∈ news
theorem PairN.sub {a b : List (Addr × Obj)} {v : Value} {c : Chunk} (h : PairN a v c) (hs : ∀ p ∈ a, p ∈ b) : PairN b v c := by
  obtain ⟨q, n, u1, u2, e, hm⟩ := h
  exact ⟨q, n, u1, u2, e, hs _ hm⟩
theorem PairAt.toN {a b : List (Addr × Obj)} {v : Value} {c : Chunk} (h : PairAt a v c) (hs : ∀ p ∈ a, p ∈ b) : PairN b v c := by
  obtain ⟨q, u1, u2, e, hm⟩ := h
  exact ⟨q, 0, u1, u2, e, hs _ hm⟩
theorem pairs_eq {A : Around} {s : Shared} {h₀ : Heap} {L : Addr} {news : List (Addr × Obj)} {xs ys : List Value} {cs : List Chunk} (N : News h₀ L s.heap news) (h1 : All2 (PairN news) xs cs) (h2 : All2 (PairN news) ys cs) (hu : A.units < cLine) :
    ∀ j (k1 : j < xs.length) (k2 : j < ys.length), SeqAt.EqAt A s xs[j] ys[j] true := fun j k1 k2 => by
  obtain ⟨c, e1, a, n, u1, u2, hx, ha⟩ := h1.get (List.getElem?_eq_getElem k1)
  obtain ⟨c', e2, a', n', u1', u2', hy, ha'⟩ := h2.get (List.getElem?_eq_getElem k2)
  rw [e1] at e2
  obtain rfl := Option.some.inj e2
  rw [hx, hy]
  exact eqAt_pair ⟨_, (N _ ha).1, rfl, _, rfl⟩ ⟨_, (N _ ha').1, rfl, _, rfl⟩ hu

theorem if_turn {prog : Program} {w : World} {p : Program} {loose : List Str} {mean : ExcName → Option Value} {mg mb : Str → Option Value}
  {dp un : Nat} {gd : Option (List Code)} {cl : List (Str × Addr)} {outer : List Env} {A₀ : Around} {base h₀ : Heap} {L : Addr} {m : Str → Option Value} {s : Shared} {Q E : Value → Shared → Prop} {Qf : Flow → Shared → Prop} {x dx c : Addr} {t tkO : Tok} {n : Nat} {vals : List Value} {ks : List Chunk} {R : Array UInt8} {rest : List (Addr × Obj)}
  (B : Below A₀ base outer h₀) (F : Fr h₀ L s.heap m) (X : (Kc w.params).In h₀) (N : News h₀ L s.heap ((x, instObj 126 dx) :: (dx, octObj w.params (sigB ++ (chunksB (ks ++ [IEND]) ++ R)) t tkO) :: rest)) (T : Top p loose mean mg mb h₀) (hm : m (Str.ofString "stream") = some (.ref x)) (hc : m (Str.ofString "chunks") = some (.ref c)) (nd : (x :: dx :: rest.map (·.1)).Nodup) (hd : dp ≤ 350) (hu : un ≤ 330)
  (hmc : (c, lstObj vals n) ∈ rest) (hv : All2 (PairN rest) vals ks) (hks : ∀ c ∈ ks, GoodC c ∧ c.1.toList ≠ [73, 69, 78, 68]) (hz : (chunksB (ks ++ [IEND])).size + R.size ≤ 90000) (hn : ks.length + 1 ≤ 1000)
  (ret : ∀ h' tk' gg t', (AllBare s.gens → AllBare gg) → Fr h₀ L h' m → News h₀ L h' ((x, instObj 126 dx) :: (dx, octObj w.params R t' tkO) :: rest) → Qf .next { s with heap := h', toks := tk', gens := gg }) :
  wpH (model prog w) (ktrTop dp un gd (Str.ofString "law") s702.1 L 702 (.ref 701) cl outer) (execs lawFor.1.2.2.2.2.2.2.1.2.2.1 (envX (Str.ofString "law") s702.1 L 702 (.ref 701) cl)) Qf (fun _ _ => False) s := by
  rw [lawIf.2]
  refine execsH_cons (IfCmpH (comp_spec B F X N T hm nd hd hu hks hz hn ?_) rfl)
  intro acc avals nl tups h1 tk1 gg t1 hb F1 N1 hv1 ht1 hacc
  have N2 : News h₀ L h1 ((c, lstObj vals n) :: (acc, lstObj avals nl) :: (x, instObj 126 dx) :: (dx, octObj w.params R t1 tkO) :: (rest ++ tups)) := fun p hp => by
    simp only [List.mem_cons] at hp
    rcases hp with rfl | rfl | rfl | rfl | hp
    · exact N1 _ (.tail _ (.tail _ (.tail _ (List.mem_append.mpr (.inl hmc)))))
    · exact N1 _ (.tail _ (.tail _ (.head _)))
    · exact N1 _ (.head _)
    · exact N1 _ (.tail _ (.head _))
    · exact N1 _ (.tail _ (.tail _ (.tail _ hp)))
  have hvl : vals.length ≤ 1000 := by rw [hv.length]; omega
  clear N N1
  dsimp only [lawIf, lawFor, b702, s702] at *
  refine wpAny_BinOp (nameX_L F1 hc ?_)
  refine List_ (spliced_more (Tuple_ (spliced_more (Constant_bytes (spliced_more (Constant_bytes (spliced_none ?_)))))))
  refine newTuple_N F1 N2 ?_
  intro h2 F2 N3
  refine spliced_none ?_
  refine newList_N F2 N3 ?_
  intro h3 F3 N4
  refine add_lists (vs := vals) F3 N4 (News.isList N4 (.tail _ (.tail _ (.head _)))) (News.isList N4 (.head _)) ?_ (sz_ok hvl)
  intro h4 F4 N5
  have p1 : ∀ p ∈ rest, p ∈ (h3.objs.size, ({ cls := .type "list", data := .seq (vals ++ [Value.ref h1.objs.size]).toArray } : Obj)) :: (h2.objs.size, { cls := .type "list", data := .seq [Value.ref h1.objs.size].toArray }) :: (h1.objs.size, { cls := .type "tuple", data := .seq [Value.bytes [73, 69, 78, 68].toArray tk1, Value.bytes [].toArray (tk1 + 1)].toArray }) :: (c, lstObj vals n) :: (acc, lstObj avals nl) :: (x, instObj 126 dx) :: (dx, octObj w.params R t1 tkO) :: (rest ++ tups) := fun p hp => by simp [hp]
  have p2 : ∀ p ∈ tups, p ∈ (h3.objs.size, ({ cls := .type "list", data := .seq (vals ++ [Value.ref h1.objs.size]).toArray } : Obj)) :: (h2.objs.size, { cls := .type "list", data := .seq [Value.ref h1.objs.size].toArray }) :: (h1.objs.size, { cls := .type "tuple", data := .seq [Value.bytes [73, 69, 78, 68].toArray tk1, Value.bytes [].toArray (tk1 + 1)].toArray }) :: (c, lstObj vals n) :: (acc, lstObj avals nl) :: (x, instObj 126 dx) :: (dx, octObj w.params R t1 tkO) :: (rest ++ tups) := fun p hp => by simp [hp]
  have e1 := hv1.imp fun v c h => h.toN p2
  have e2 := (hv.imp fun v c h => h.sub p1).snoc (a := Value.ref h1.objs.size) (b := IEND) ⟨_, 0, tk1, tk1 + 1, rfl, .tail _ (.tail _ (.head _))⟩
  refine ne_lists (xs := avals) (ys := vals ++ [Value.ref h1.objs.size]) ?_ (News.isList N5 (.head _)) ?_ ?_ ?_ ?_
  · exact News.isList N5 (.tail _ (.tail _ (.tail _ (.tail _ (.head _)))))
  · rw [e1.length, e2.length]
  · exact pairs_eq N5 e1 e2 (Nat.lt_of_le_of_lt (show un + 1 ≤ 331 by omega) (by decide))
  · exact Nat.lt_of_le_of_lt hu (by decide)
  · refine wpAny_truthy_bool ?_
    rw [if_neg Bool.false_ne_true]
    refine execsH_nil ?_
    dsimp only
    refine execsH_nil ?_
    exact ret h4 _ gg t1 hb F4 (fun p hp => N5 p (by
      simp only [List.mem_cons] at hp ⊢
      rcases hp with h | h | h
      · simp [h]
      · simp [h]
      · simp [List.mem_append.mpr (.inl h)]))
end Mine
end
-- M17
section
open PySem PySem.W PySem.W.X PyProof.Rows PySem.Calls PySem.Spec
set_option Elab.async false
set_option maxRecDepth 100000
set_option maxHeartbeats 4000000
namespace Mine
theorem warm17 : (PySem.Challenge.rw_ar0037_04 = PySem.Challenge.rw_ar0037_04) ∧ (∀ P, Kc P = Kc P) := by
  k_fill
  exact ⟨rfl, fun _ => rfl⟩

noncomputable def filesB : List (List Chunk) → Array UInt8
  | [] => #[]
  | ks :: r => sigB ++ (chunksB (ks ++ [IEND]) ++ filesB r)
noncomputable def FileAt (news : List (Addr × Obj)) (v : Value) (ks : List Chunk) : Prop := ∃ c vals n, v = .ref c ∧ (c, lstObj vals n) ∈ news ∧ All2 (PairN news) vals ks
noncomputable def IterO (o : Obj) (l : Addr) (i : Nat) : Prop := o.cls = .type "list_iterator" ∧ o.data = .fields #[.ref l, .int i 0]
theorem IterO.is {h : Heap} {a : Addr} {o : Obj} {l : Addr} {i : Nat} (x : IterO o l i) (e : h.get? a = some o) : h.IsListIter a l i := ⟨o, e, x.1, x.2⟩
theorem iterO_of {h : Heap} {a l : Addr} {i : Nat} (x : h.IsListIter a l i) : ∃ o, h.get? a = some o ∧ IterO o l i := by
  obtain ⟨o, e, h1, h2⟩ := x
  exact ⟨o, e, h1, h2⟩
theorem drop_cons {α : Type} {l : List α} {i : Nat} {a : α} (h : l[i]? = some a) : l.drop i = a :: l.drop (i + 1) := by
  obtain ⟨hl, e⟩ := List.getElem?_eq_some_iff.mp h
  rw [List.drop_eq_getElem_cons hl, e]
theorem filesB_drop {fss : List (List Chunk)} {i : Nat} : (filesB (fss.drop i)).size ≤ (filesB fss).size := by
  induction fss generalizing i with
  | nil => simp
  | cons k r ih =>
    cases i with
    | zero => exact Nat.le_refl _
    | succ i =>
      have h1 := ih (i := i)
      have h2 : (filesB (k :: r)).size = (sigB ++ (chunksB (k ++ [IEND]) ++ filesB r)).size := rfl
      rw [h2]
      simp only [Array.size_append, List.drop_succ_cons]
      omega

theorem law_for {prog : Program} {w : World} {p : Program} {loose : List Str} {mean : ExcName → Option Value} {mg mb : Str → Option Value}
  {dp un : Nat} {gd : Option (List Code)} {cl : List (Str × Addr)} {outer : List Env} {A₀ : Around} {base h₀ : Heap} {L : Addr} {m : Str → Option Value} {s : Shared} {Q E : Value → Shared → Prop} {Qf : Flow → Shared → Prop} {x dx fl : Addr} {t tkO : Tok} {nf : Nat} {fvals : List Value} {fss : List (List Chunk)} {rest : List (Addr × Obj)}
  (B : Below A₀ base outer h₀) (F : Fr h₀ L s.heap m) (X : (Kc w.params).In h₀) (N : News h₀ L s.heap ((x, instObj 126 dx) :: (dx, octObj w.params (filesB fss) t tkO) :: rest)) (T : Top p loose mean mg mb h₀) (hm : m (Str.ofString "stream") = some (.ref x)) (hf : m (Str.ofString "files") = some (.ref fl)) (nd : (x :: dx :: rest.map (·.1)).Nodup) (hd : dp ≤ 350) (hu : un ≤ 330)
  (hmf : (fl, lstObj fvals nf) ∈ rest) (hv : All2 (FileAt rest) fvals fss) (hks : ∀ ks ∈ fss, (∀ c ∈ ks, GoodC c ∧ c.1.toList ≠ [73, 69, 78, 68]) ∧ ks.length + 1 ≤ 1000) (hz : (filesB fss).size ≤ 90000)
  (ret : ∀ h' tk' gg t' m', (AllBare s.gens → AllBare gg) → m' (Str.ofString "stream") = some (.ref x) → Fr h₀ L h' m' → News h₀ L h' ((x, instObj 126 dx) :: (dx, octObj w.params #[] t' tkO) :: rest) → Qf .next { s with heap := h', toks := tk', gens := gg }) :
  wpH (model prog w) (ktrTop dp un gd (Str.ofString "law") s702.1 L 702 (.ref 701) cl outer) (exec (.For lawFor.1.2.2.2.2.2.2.1.1 lawFor.1.2.2.2.2.2.2.1.2.1 lawFor.1.2.2.2.2.2.2.1.2.2.1 [] lawFor.1.2.2.2.2.2.2.1.2.2.2) (envX (Str.ofString "law") s702.1 L 702 (.ref 701) cl)) Qf E s := by
  have hfl := N _ (.tail _ (.tail _ hmf))
  have IL : s.heap.IsList fl fvals.toArray := ⟨_, hfl.1, rfl, _, rfl⟩
  refine ForH (show wpAny _ _ (eval (.Name _ _) _) _ _ _ from nameX_L F hf ?_)
  refine wpAny_pyIter_list IL ?_
  have fresh : s.heap.get? s.heap.objs.size = none := size_none
  have hit : s.heap.objs.size ∉ (x :: dx :: rest.map (·.1)) := fun hm => by
    have hm2 : s.heap.objs.size ∈ ((x, instObj 126 dx) :: (dx, octObj w.params (filesB fss) t tkO) :: rest).map (·.1) := hm
    obtain ⟨p, hp, e⟩ := List.mem_map.mp hm2
    have h9 := Heap.lt_size (N p hp).1
    rw [e] at h9
    exact Nat.lt_irrefl _ h9
  refine codeH_forLoop (fun k s' => ∃ i h tk gg t m' oit, k + i = fss.length + 1 ∧ i ≤ fss.length ∧ s' = { s with heap := h, toks := tk, gens := gg } ∧ (AllBare s.gens → AllBare gg) ∧ m' (Str.ofString "stream") = some (.ref x) ∧ Fr h₀ L h m' ∧ News h₀ L h ((x, instObj 126 dx) :: (dx, octObj w.params (filesB (fss.drop i)) t tkO) :: (s.heap.objs.size, oit) :: rest) ∧ IterO oit fl i) ?_ (fss.length + 1) ⟨0, _, _, _, t, m, { cls := .type "list_iterator", data := .fields #[.ref fl, .int 0 0] }, rfl, Nat.zero_le _, rfl, id, hm, F.push _, ?_, rfl, rfl⟩
  · intro k s' hI
    obtain ⟨i, h, tk, gg, t1, m', oit, hk, hi, rfl, hb, hm', F1, N1, hoit⟩ := hI
    have hit1 := N1 _ (.tail _ (.tail _ (.head _)))
    have hfl1 := N1 _ (.tail _ (.tail _ (.tail _ hmf)))
    have IL1 : h.IsList fl fvals.toArray := ⟨_, hfl1.1, rfl, _, rfl⟩
    by_cases hlt : i < fss.length
    · obtain ⟨ks, hks1⟩ : ∃ ks, fss[i]? = some ks := ⟨fss[i], by simp [hlt]⟩
      obtain ⟨v, hv1⟩ : ∃ v, fvals[i]? = some v := ⟨fvals[i]'(by rw [hv.length]; exact hlt), by simp [hv.length, hlt]⟩
      obtain ⟨ks', e1, c, vals, n, rfl, hc, hpairs⟩ := hv.get hv1
      rw [hks1] at e1
      obtain rfl := Option.some.inj e1
      have hks2 := hks ks (List.mem_of_getElem? hks1)
      refine wpAny_pyNext_list_item (hoit.is hit1.1) IL1 (x := .ref c) (by simpa using hv1) ?_
      intro h2 hit2 sb2
      obtain ⟨oit2, e2, hoit2⟩ := iterO_of hit2
      have F2 : Fr h₀ L h2 m' := F1.change sb2 hit1.2.1 hit1.2.2
      have N2 : News h₀ L h2 ((x, instObj 126 dx) :: (dx, octObj w.params (sigB ++ (chunksB (ks ++ [IEND]) ++ filesB (fss.drop (i + 1)))) t1 tkO) :: (s.heap.objs.size, oit2) :: rest) := fun p hp => by
        have hne : ∀ q : Addr, q ∈ (x :: dx :: rest.map (·.1)) → q ≠ s.heap.objs.size := fun q hq e => hit (e ▸ hq)
        rw [drop_cons hks1] at N1
        simp only [List.mem_cons] at hp
        rcases hp with rfl | rfl | rfl | hp
        · exact ⟨(sb2.2 _ (hne _ (.head _))).trans (N1 _ (.head _)).1, (N1 _ (.head _)).2⟩
        · exact ⟨(sb2.2 _ (hne _ (.tail _ (.head _)))).trans (N1 _ (.tail _ (.head _))).1, (N1 _ (.tail _ (.head _))).2⟩
        · exact ⟨e2, hit1.2⟩
        · exact ⟨(sb2.2 _ (hne _ (.tail _ (.tail _ (List.mem_map_of_mem hp))))).trans (N1 _ (.tail _ (.tail _ (.tail _ hp)))).1, (N1 _ (.tail _ (.tail _ (.tail _ hp)))).2⟩
      refine (show wpAny _ _ (assign (.Name _ _) _ _) _ _ _ from wpAny_assign_Name (storeX_L F2 N2 ?_))
      intro h3 F3 N3
      have hz1 : (chunksB (ks ++ [IEND])).size + (filesB (fss.drop (i + 1))).size ≤ 90000 := by
        have h5 := filesB_drop (fss := fss) (i := i)
        rw [drop_cons hks1, filesB] at h5
        simp only [Array.size_append] at h5
        omega
      refine if_turn (Q := Q) (E := E) B F3 X N3 T hm' rfl ?_ hd hu (.tail _ hc) (hpairs.imp fun v c h => h.sub fun p hp => .tail _ hp) hks2.1 hz1 hks2.2 ?_
      · simp only [List.map_cons, List.nodup_cons, List.mem_cons, not_or] at nd hit ⊢
        exact ⟨⟨nd.1.1, Ne.symm hit.1, nd.1.2⟩, ⟨Ne.symm hit.2.1, nd.2.1⟩, hit.2.2, nd.2.2⟩
      · intro h4 tk4 gg4 t4 hb4 F4 N4
        exact ⟨fss.length - i, by omega, i + 1, h4, tk4, gg4, t4, (fun y => if y = Str.ofString "chunks" then some (Value.ref c) else m' y), oit2, by omega, by omega, rfl, fun hx => hb4 (hb hx), (by show (if Str.ofString "stream" = Str.ofString "chunks" then _ else _) = _; rw [if_neg (by decide)]; exact hm'), F4, N4, hoit2⟩
    · have hi2 : i = fss.length := by omega
      refine wpAny_pyNext_list_end rfl (hoit.is hit1.1) IL1 (by simp [hv.length]; omega) ?_
      intro h2 eb
      refine execsH_nil ⟨_, rfl, ?_⟩
      have hdr : fss.drop i = [] := by rw [hi2]; exact List.drop_length
      rw [hdr] at N1
      have hne : ∀ q : Addr, q ∈ (x :: dx :: rest.map (·.1)) → q ≠ s.heap.objs.size := fun q hq e => hit (e ▸ hq)
      refine ret h2 tk gg t1 m' hb hm' ?_ ?_
      · obtain ⟨oL, a1, a2, hL, a3⟩ := F1.ns
        exact ⟨⟨oL, a1, a2, eb _ _ (Ne.symm hit1.2.1) hL, a3⟩, fun b o e => eb b o (fun q => by rw [q] at e; rw [hit1.2.2] at e; cases e) (F1.keep b o e), F1.above⟩
      · intro p hp
        simp only [List.mem_cons] at hp
        rcases hp with rfl | rfl | hp
        · exact ⟨eb _ _ (hne _ (.head _)) (N1 _ (.head _)).1, (N1 _ (.head _)).2⟩
        · exact ⟨eb _ _ (hne _ (.tail _ (.head _))) (N1 _ (.tail _ (.head _))).1, (N1 _ (.tail _ (.head _))).2⟩
        · exact ⟨eb _ _ (hne _ (.tail _ (.tail _ (List.mem_map_of_mem hp)))) (N1 _ (.tail _ (.tail _ (.tail _ hp)))).1, (N1 _ (.tail _ (.tail _ (.tail _ hp)))).2⟩
  · rw [List.drop_zero]
    have NP := News.push F N ({ cls := .type "list_iterator", data := .fields #[.ref fl, .int 0 0] } : Obj)
    intro p hp
    simp only [List.mem_cons] at hp
    rcases hp with rfl | rfl | rfl | hp
    · exact NP _ (.tail _ (.head _))
    · exact NP _ (.tail _ (.tail _ (.head _)))
    · exact NP _ (.head _)
    · exact NP _ (.tail _ (.tail _ (.tail _ hp)))
end Mine
end
-- M18
section
open PySem PySem.W PySem.W.X PyProof.Rows PySem.Calls PySem.Spec
set_option Elab.async false
set_option maxRecDepth 100000
set_option maxHeartbeats 4000000
namespace Mine
local macro_rules | `(tactic| walk_at "none at all") => `(tactic| fail)
local macro_rules | `(tactic| walk_at "none at all") => `(tactic| fail)
theorem reset_M18 : True := by
  w_top off
  trivial
theorem warm18 : (PySem.Challenge.rw_ar0037_04 = PySem.Challenge.rw_ar0037_04) ∧ (∀ P, Kc P = Kc P) := by
  k_fill
  exact ⟨rfl, fun _ => rfl⟩

theorem permE {a b c d : Addr × Obj} {l : List (Addr × Obj)} : ∀ p ∈ c :: d :: a :: b :: l, p ∈ a :: b :: c :: d :: l := fun p hp => by
  simp only [List.mem_cons] at hp ⊢
  rcases hp with h | h | h | h | h <;> simp [h]
section
variable {prog : Program} {w : World} {A₀ : Around} {E : Value → Shared → Prop} {s' : Shared} {h₀ h : Heap} {outer : List Env} {L a e t : Addr} {m : Str → Option Value} {name : Str} {scope : Scope} {cd : Value} {cl : List (Str × Addr)}
  {vs : List Value} {b₀ : Stmt} {suite : List Stmt} {pos np : Pos} {rest : List ExceptHandler} {Q : Flow → Shared → Prop} {news : List (Addr × Obj)}
  {p : Program} {loose : List Str} {mg mb : Str → Option Value}
/-- an EOFError is caught in a frame with cells -/
theorem caught_E (K : Below A₀ h₀ outer h₀) (F : Fr h₀ L h m) (hsm : h.UpToSlots s'.heap) (R : RaisedK h₀ (envX name scope L a cd cl :: outer) e (.type "EOFError") t vs news s'.heap) (T : TopRead p loose mg mb h₀)
    (k : ∀ h', Fr h₀ L h' m → wpAny (model prog w) ((A₀.deeper (envX name scope L a cd cl)).mark (some (.ref e))) (execs (b₀ :: suite) (envX name scope L a cd cl)) Q (fun _ _ => False) { s' with heap := h' })
    (h1 : ("EOFError" : Str) ∉ startupNames := by decide +kernel) (h2 : ("EOFError" : Str) ∉ loose := by decide +kernel) (h3 : ("EOFError" : Str) ∉ (recsOf p).map (·.name) := by decide +kernel) (h4 : ("EOFError" : Str) ∉ (litsOf p).map (·.1) := by decide +kernel) (h5 : ("EOFError" : Str) ∉ (clssOf p loose).map (·.name) := by decide +kernel)
    (hk : scope.kind = .function := by rfl) (hx : (envX name scope L a cd cl).kindOf ("EOFError" : Str) = some .globalImplicit := by rfl) :
    wpAny (model prog w) (A₀.deeper (envX name scope L a cd cl)) (noteFrame (.ref e) (envX name scope L a cd cl))
      (fun _ s₂ => wpAny (model prog w) (A₀.deeper (envX name scope L a cd cl)) (setFlight (.ref e) none) (fun _ s₃ =>
        wpAny (model prog w) (A₀.deeper (envX name scope L a cd cl)) (handleBy (.ref e) (envX name scope L a cd cl) (.ExceptHandler (some (.Name ("EOFError" : Str) np)) none (b₀ :: suite) pos :: rest)) Q E s₃) E s₂) E s' := by
  obtain ⟨⟨B, hB, _, hfl, _⟩, _⟩ := R
  refine wpAny_looks_onW (Around.frames_deeper K.stack) rfl hfl fun g1 held1 sm1 => ?_
  refine wpAny_landsW held1 fun g2 held2 sm2 => ?_
  have sm := sm1.trans sm2
  have held := flyingW_base hB held2
  have F2 := F.of_stays held.1 (hsm.trans sm)
  obtain ⟨ob, hob, hobc⟩ := held.there
  have hv : mb ("EOFError" : Str) = some (.type "EOFError") := (T.builtins ("EOFError" : Str) (by decide +kernel)).trans (by kernel_rfl)
  have hex : isSubtype (.type "EOFError") (.type "BaseException") = pure true := by rw [isSubtype_type]; kernel_rfl
  have hnt : isSubtype (.type ((Manifest.find? "EOFError").elim "type" fun y => y.metatype)) (.type "tuple") = pure false := by rw [isSubtype_type]; kernel_rfl
  have hsub : isSubtype (.type "EOFError") (.type "EOFError") = pure true := by rw [isSubtype_type]; kernel_rfl
  refine wpAny_handleBy_builtin (X := "EOFError") (T := "EOFError") (b := true) hex hnt hsub
    (Name_function_global hk hx (loadGlobal_builtin (env := envX name scope L a cd cl) (T.g.keeps F2.keep) (T.free ("EOFError" : Str) h1 h2 h3 h4 h5) (T.b.keeps F2.keep) hv ⟨rfl, ⟨ob, hob, hobc⟩, ?_⟩) (by decide))
  refine lands_againW held2 fun g3 fl3 sm3 => ?_
  have fl := flyingW_base hB fl3
  exact wpAny_mono (k g3 (F.of_stays fl.1 ((hsm.trans sm).trans sm3))) (fun _ _ x => x) (fun _ _ x => x.elim)
end

local macro_rules | `(tactic| walk_at "eval Name") => `(tactic| (k_here; k_dflt (refine' nameX_L ?F ?hv ?_; (case F => k_asm); (case hv => assumption); k_whole)))

local macro_rules | `(tactic| walk_at "noteFrame ref") => `(tactic| (k_here; (rename RaisedK _ _ _ _ _ _ _ _ => rkX); refine caught_E (by assumption) (by assumption) (by assumption) rkX (by k_asm) ?_; intro h' F'))

theorem law_try {prog : Program} {w : World} {mean : ExcName → Option Value} {mg mb : Str → Option Value}
  {dp un : Nat} {gd : Option (List Code)} {cl : List (Str × Addr)} {outer : List Env} {A₀ : Around} {h₀ : Heap} {L : Addr} {m : Str → Option Value} {s : Shared} {Q : Flow → Shared → Prop} {E : Value → Shared → Prop} {x dx : Addr} {t tkO : Tok} {rest : List (Addr × Obj)} {p : Program} {loose : List Str}
  (B : Below A₀ h₀ outer h₀) (F : Fr h₀ L s.heap m) (X : (Kc w.params).In h₀) (N : News h₀ L s.heap ((x, instObj 126 dx) :: (dx, octObj w.params #[] t tkO) :: rest)) (T : Top p loose mean mg mb h₀) (hm : m (Str.ofString "stream") = some (.ref x)) (nd : (x :: dx :: rest.map (·.1)).Nodup) (hd : dp ≤ 350) (hu : un ≤ 330) (hA : A₀.deeper (envX (Str.ofString "law") s702.1 L 702 (.ref 701) cl) = (ktrTop dp un gd (Str.ofString "law") s702.1 L 702 (.ref 701) cl outer))
  (g1 : ("EOFError" : Str) ∉ loose) (g2 : ("EOFError" : Str) ∉ (recsOf p).map (·.name)) (g3 : ("EOFError" : Str) ∉ (litsOf p).map (·.1)) (g4 : ("EOFError" : Str) ∉ (clssOf p loose).map (·.name))
  (ret : ∀ h' tk', Fr h₀ L h' m → Q (.ret (.bool true)) { s with heap := h', toks := tk' }) :
  wpAny (model prog w) (ktrTop dp un gd (Str.ofString "law") s702.1 L 702 (.ref 701) cl outer) (exec lawFor.1.2.2.2.2.2.2.2.1 (envX (Str.ofString "law") s702.1 L 702 (.ref 701) cl)) Q E s := by
  dsimp only [lawFor, b702, s702] at *
  refine wpAny_Try_except ?_
  k_steps
  k_dflt (refine' new_reader ?B ?F ?X ?N ?T ?K ?hd ?hu ?_; (case B => k_asm); (case F => k_asm); (case X => k_asm); (case N => k_asm); (case T => k_asm); (case K => exact rfl); (case hd => omega); (case hu => omega); k_whole)
  intro r dr h1 tk1 t1 t2 t3 t4 F1 N1 l1 l2
  k_steps
  have e1 := ltN l2
  have e2 := ltN (l1 _ (.head _))
  have e3 := ltN (l1 _ (.tail _ (.head _)))
  have hoff : OwnOff rest [x, dx] := by
    simp only [List.nodup_cons, List.mem_cons, not_or] at nd
    exact offs nd.1.2 nd.2.1
  have hofr : OwnOff rest [r, dr] := off_new (fun p hp => l1 p (.tail _ (.tail _ hp))) l2
  have hxd : @Ne Nat x dx := by
    simp only [List.nodup_cons, List.mem_cons, not_or] at nd
    exact nd.1.1
  refine chunk_eof B F1 X (news_sub N1 permE) T rfl hxd (by omega) (by omega) (by omega) (by omega) (by omega) hoff hofr (by omega) (by omega) ?_
  intro e te vs nw h5 tk5 g F5 U5 R5
  dsimp only
  rw [← hA]
  refine caught_E B F5 U5 R5 (topRead_of T) ?_ (by decide +kernel) g1 g2 g3 g4 rfl rfl
  intro h6 F6
  k_steps
  exact ret _ _ F6
end Mine
end
-- M19
section
open PySem PySem.W PySem.W.X PyProof.Rows PySem.Calls PySem.Spec
set_option Elab.async false
set_option maxRecDepth 100000
set_option maxHeartbeats 4000000
namespace Mine
theorem reset_M19 : True := by
  w_top off
  trivial
theorem warm19 : (PySem.Challenge.rw_ar0037_04 = PySem.Challenge.rw_ar0037_04) ∧ (∀ P, Kc P = Kc P) := by
  k_fill
  exact ⟨rfl, fun _ => rfl⟩

noncomputable def lawB : { x : (Stmt × Expr × Expr × Expr × Stmt × Stmt × Stmt × Pos × Pos) // lawFor.1.2.1 = .For x.2.1 x.2.2.1 [.If x.2.2.2.1 [x.2.2.2.2.1] [x.2.2.2.2.2.1, x.2.2.2.2.2.2.1] x.2.2.2.2.2.2.2.1] [] x.2.2.2.2.2.2.2.2 } := ⟨(.Pass default, _, _, _, _, _, _, _, _), rfl⟩

noncomputable def kindI (nb : Int) : List Int := [97 + (nb.fdiv 2).fmod 26, 65 + (nb.fdiv 52).fmod 26, 65 + (nb.fdiv 3).fmod 26, 97 + nb.fmod 26]
noncomputable abbrev kindB (nb : Int) : Array UInt8 := ((kindI nb).map fun n => n.toNat.toUInt8).toArray
noncomputable abbrev dataB (nb : Int) : Array UInt8 := byteArr (List.map (fun k' => (nb.fdiv (k' + 1) + 31 * k').fmod 256) (rangeKs 0 ((nb.fdiv 5).fmod 7 - 0).toNat))
theorem idx_last (fv : List Value) (v : Value) : seqIndex? (-1) (fv ++ [v]).length = some fv.length := by
  rw [List.length_append]
  refine (PySem.seqIndex_neg (by decide) (by simp; omega)).trans ?_
  simp
  omega
theorem permF {t a b c d : Addr × Obj} {l : List (Addr × Obj)} : ∀ p ∈ d :: t :: b :: c :: l, p ∈ t :: a :: b :: c :: d :: l := fun p hp => by
  simp only [List.mem_cons] at hp ⊢
  rcases hp with h | h | h | h | h <;> simp [h]
theorem permG {t b c d : Addr × Obj} {l : List (Addr × Obj)} : ∀ p ∈ b :: c :: d :: t :: l, p ∈ d :: t :: b :: c :: l := fun p hp => by
  simp only [List.mem_cons] at hp ⊢
  rcases hp with h | h | h | h | h <;> simp [h]
theorem kindI_in (nb : Int) : ∀ n ∈ kindI nb, 0 ≤ n ∧ n < 256 := by
  intro n hn
  have a1 := Int.fmod_nonneg_of_pos (nb.fdiv 2) (b := 26) (by decide)
  have b1 := Int.fmod_lt_of_pos (nb.fdiv 2) (b := 26) (by decide)
  have a2 := Int.fmod_nonneg_of_pos (nb.fdiv 52) (b := 26) (by decide)
  have b2 := Int.fmod_lt_of_pos (nb.fdiv 52) (b := 26) (by decide)
  have a3 := Int.fmod_nonneg_of_pos (nb.fdiv 3) (b := 26) (by decide)
  have b3 := Int.fmod_lt_of_pos (nb.fdiv 3) (b := 26) (by decide)
  have a4 := Int.fmod_nonneg_of_pos nb (b := 26) (by decide)
  have b4 := Int.fmod_lt_of_pos nb (b := 26) (by decide)
  simp only [kindI, List.mem_cons, List.not_mem_nil, or_false] at hn
  rcases hn with rfl | rfl | rfl | rfl <;> omega

local macro_rules | `(tactic| walk_at "eval Name") => `(tactic| (k_here; k_dflt (refine' nameX_L ?F ?hv ?_; (case F => k_asm); (case hv => assumption); k_whole)))

theorem build_kind {prog : Program} {w : World} {p : Program} {loose : List Str} {mean : ExcName → Option Value} {mg mb : Str → Option Value}
  {dp un : Nat} {gd : Option (List Code)} {cA : Addr} {outer : List Env} {A₀ : Around} {base h₀ : Heap} {L : Addr} {m : Str → Option Value} {s : Shared} {Q E : Value → Shared → Prop} {Qf : Flow → Shared → Prop} {nb : Int} {tn : Tok} {cO : Obj} {rest : List (Addr × Obj)}
  (B : Below A₀ base outer h₀) (F : Fr h₀ L s.heap m) (X : (Kc w.params).In h₀) (N : News h₀ L s.heap ((cA, cO) :: rest)) (T : Top p loose mean mg mb h₀) (hcO : cO.data = .cell (some (.int nb tn))) (hd : dp ≤ 350) (hu : un ≤ 330)
  (ret : ∀ h' tk' t', Fr h₀ L h' (fun y => if y = Str.ofString "kind" then some (.bytes (kindB nb) t') else m y) → News h₀ L h' ((cA, cO) :: rest) → Qf .next { s with heap := h', toks := tk' }) :
  wpAny (model prog w) (ktrTop dp un gd (Str.ofString "law") s702.1 L 702 (.ref 701) [(Str.ofString "number", cA)] outer) (exec lawB.1.2.2.2.2.2.1 (envX (Str.ofString "law") s702.1 L 702 (.ref 701) [(Str.ofString "number", cA)])) Qf E s := by
  dsimp only [lawB, lawFor, b702, s702] at *
  k_steps
  rename Fr _ _ _ _ => eF
  rename News _ _ _ _ => eN
  refine bytes_K (ns := kindI nb) eF eN (News.isList eN (.head _)) (by unfold kindI; l_ints) (kindI_in nb) (show (4 : Nat) ≤ sizeLine by decide) rfl ?_
  intro h1 t1 k1 F1 N1 _
  k_steps
  exact ret _ _ _ (by assumption) (news_sub (by assumption) fun _ h => .tail _ h)

theorem build_app {prog : Program} {w : World} {p : Program} {loose : List Str} {mean : ExcName → Option Value} {mg mb : Str → Option Value}
  {dp un : Nat} {gd : Option (List Code)} {cA : Addr} {outer : List Env} {A₀ : Around} {base h₀ : Heap} {L : Addr} {m : Str → Option Value} {s : Shared} {Q E : Value → Shared → Prop} {Qf : Flow → Shared → Prop} {nb : Int} {tn tK : Tok} {cO : Obj} {fl c : Addr} {fv vals : List Value} {nf n : Nat} {K : Array UInt8} {rest : List (Addr × Obj)}
  (B : Below A₀ base outer h₀) (F : Fr h₀ L s.heap m) (X : (Kc w.params).In h₀) (N : News h₀ L s.heap ((cA, cO) :: (fl, lstObj (fv ++ [.ref c]) nf) :: (c, lstObj vals n) :: rest)) (T : Top p loose mean mg mb h₀) (hcO : cO.data = .cell (some (.int nb tn))) (hd : dp ≤ 350) (hu : un ≤ 330) (hf : m (Str.ofString "files") = some (.ref fl)) (hK : m (Str.ofString "kind") = some (.bytes K tK)) (h1 : @Ne Nat cA fl) (h2 : @Ne Nat cA c) (h3 : @Ne Nat fl c) (hcr : ∀ p ∈ rest, p.1 ≠ c) (hvl : vals.length ≤ 1000)
  (ret : ∀ h' tk' T u1 u2, Fr h₀ L h' m → News h₀ L h' ((cA, cO) :: (fl, lstObj (fv ++ [.ref c]) nf) :: (c, lstObj (vals ++ [.ref T]) (n + 1)) :: (T, tupObj [.bytes K u1, .bytes (dataB nb) u2] 0) :: rest) → cA < T → fl < T → c < T → AllLt T rest → Qf .next { s with heap := h', toks := tk' }) :
  wpAny (model prog w) (ktrTop dp un gd (Str.ofString "law") s702.1 L 702 (.ref 701) [(Str.ofString "number", cA)] outer) (exec lawB.1.2.2.2.2.2.2.1 (envX (Str.ofString "law") s702.1 L 702 (.ref 701) [(Str.ofString "number", cA)])) Qf E s := by
  dsimp only [lawB, lawFor, b702, s702] at *
  k_steps
  rename Fr _ _ _ _ => eF
  rename News _ _ _ _ => eN
  refine kde_neg (vs := fv ++ [.ref c]) (j := fv.length) (v := .ref c) (News.isList eN (.tail _ (.head _))) (by decide) (by decide) (idx_last _ _) (by simp) ?_ (by with_unfolding_all rfl)
  k_steps
  rename_i T9 h9 F9 N9 l9
  obtain ⟨_, e1, e2, e3, e4⟩ := l9
  have d1 := ltN e1
  have d2 := ltN e2
  have d3 := ltN e3
  refine append_K (D := c) F9 (news_sub N9 permF) (Upd.head ?_) ?_ ?_
  · intro p hp
    simp only [List.mem_cons] at hp
    rcases hp with rfl | rfl | rfl | hp
    · show @Ne Nat _ _
      omega
    · exact h2
    · exact h3
    · exact hcr p hp
  · intro h10 F10 N10
    rw [List.push_toArray] at N10
    exact ret _ _ _ _ _ F10 (news_sub N10 permG) e1 e2 e3 e4
  · show vals.toArray.size ≤ sizeLine
    rw [List.size_toArray]
    exact Nat.le_trans hvl (by decide)
end Mine
end
-- M20
section
open PySem PySem.W PySem.W.X PyProof.Rows PySem.Calls PySem.Spec
set_option Elab.async false
set_option maxRecDepth 100000
set_option maxHeartbeats 4000000
namespace Mine
local macro_rules | `(tactic| walk_at "none at all") => `(tactic| fail)
local macro_rules | `(tactic| walk_at "none at all") => `(tactic| fail)
theorem reset_M20 : True := by
  w_top off
  trivial
theorem warm20 : (PySem.Challenge.rw_ar0037_04 = PySem.Challenge.rw_ar0037_04) ∧ (∀ P, Kc P = Kc P) := by
  k_fill
  exact ⟨rfl, fun _ => rfl⟩

local macro_rules | `(tactic| walk_at "eval Name") => `(tactic| (k_here; k_dflt (refine' nameX_L ?F ?hv ?_; (case F => k_asm); (case hv => assumption); k_whole)))

theorem permH {t a d : Addr × Obj} {l : List (Addr × Obj)} : ∀ p ∈ d :: t :: a :: l, p ∈ t :: a :: d :: l := fun p hp => by
  simp only [List.mem_cons] at hp ⊢
  rcases hp with h | h | h | h <;> simp [h]
theorem permK {t a d : Addr × Obj} {l : List (Addr × Obj)} : ∀ p ∈ a :: d :: t :: l, p ∈ d :: t :: a :: l := fun p hp => by
  simp only [List.mem_cons] at hp ⊢
  rcases hp with h | h | h | h <;> simp [h]
theorem build_new {prog : Program} {w : World} {p : Program} {loose : List Str} {mean : ExcName → Option Value} {mg mb : Str → Option Value}
  {dp un : Nat} {gd : Option (List Code)} {cA : Addr} {outer : List Env} {A₀ : Around} {base h₀ : Heap} {L : Addr} {m : Str → Option Value} {s : Shared} {Q E : Value → Shared → Prop} {Qf : Flow → Shared → Prop} {cO : Obj} {fl : Addr} {fv : List Value} {nf : Nat} {rest : List (Addr × Obj)}
  (B : Below A₀ base outer h₀) (F : Fr h₀ L s.heap m) (X : (Kc w.params).In h₀) (N : News h₀ L s.heap ((cA, cO) :: (fl, lstObj fv nf) :: rest)) (T : Top p loose mean mg mb h₀) (hd : dp ≤ 350) (hu : un ≤ 330) (hf : m (Str.ofString "files") = some (.ref fl)) (h1 : @Ne Nat cA fl) (hfr : ∀ p ∈ rest, p.1 ≠ fl) (hfv : fv.length ≤ 1000)
  (ret : ∀ h' tk' c, Fr h₀ L h' m → News h₀ L h' ((cA, cO) :: (fl, lstObj (fv ++ [.ref c]) (nf + 1)) :: (c, lstObj [] 0) :: rest) → cA < c → fl < c → AllLt c rest → Qf .next { s with heap := h', toks := tk' }) :
  wpAny (model prog w) (ktrTop dp un gd (Str.ofString "law") s702.1 L 702 (.ref 701) [(Str.ofString "number", cA)] outer) (exec lawB.1.2.2.2.2.1 (envX (Str.ofString "law") s702.1 L 702 (.ref 701) [(Str.ofString "number", cA)])) Qf E s := by
  dsimp only [lawB, lawFor, b702, s702] at *
  k_steps
  rename_i T9 h9 F9 N9 l9
  obtain ⟨e1, e2, e4⟩ := l9
  have d2 := ltN e2
  refine append_K (D := fl) F9 (news_sub N9 permH) (Upd.head ?_) ?_ ?_
  · intro p hp
    simp only [List.mem_cons] at hp
    rcases hp with rfl | rfl | hp
    · show @Ne Nat _ _
      omega
    · exact h1
    · exact hfr p hp
  · intro h10 F10 N10
    rw [List.push_toArray] at N10
    exact ret _ _ _ F10 (news_sub N10 permK) e1 e2 e4
  · show fv.toArray.size ≤ sizeLine
    rw [List.size_toArray]
    exact Nat.le_trans hfv (by decide)
theorem test_five {prog : Program} {w : World} {p : Program} {loose : List Str} {mean : ExcName → Option Value} {mg mb : Str → Option Value}
  {dp un : Nat} {gd : Option (List Code)} {cA : Addr} {outer : List Env} {A₀ : Around} {base h₀ : Heap} {L : Addr} {m : Str → Option Value} {s : Shared} {Q E : Value → Shared → Prop} {Qb : Bool → Shared → Prop} {nb : Int} {tn : Tok} {cO : Obj} {rest : List (Addr × Obj)}
  (B : Below A₀ base outer h₀) (F : Fr h₀ L s.heap m) (X : (Kc w.params).In h₀) (N : News h₀ L s.heap ((cA, cO) :: rest)) (T : Top p loose mean mg mb h₀) (hcO : cO.data = .cell (some (.int nb tn))) (hd : dp ≤ 350) (hu : un ≤ 330)
  (ret : ∀ tk' b, Qb b { s with toks := tk' }) :
  wpAny (model prog w) (ktrTop dp un gd (Str.ofString "law") s702.1 L 702 (.ref 701) [(Str.ofString "number", cA)] outer) (isTrue lawB.1.2.2.2.1 (envX (Str.ofString "law") s702.1 L 702 (.ref 701) [(Str.ofString "number", cA)]) (eval lawB.1.2.2.2.1 (envX (Str.ofString "law") s702.1 L 702 (.ref 701) [(Str.ofString "number", cA)]))) Qb E s := by
  dsimp only [lawB, lawFor, b702, s702] at *
  k_steps
  all_goals exact ret _ _
end Mine
end
-- M21
section
open PySem PySem.W PySem.W.X PyProof.Rows PySem.Calls PySem.Spec
set_option Elab.async false
set_option maxRecDepth 100000
set_option maxHeartbeats 4000000
namespace Mine
theorem warm21 : (PySem.Challenge.rw_ar0037_04 = PySem.Challenge.rw_ar0037_04) ∧ (∀ P, Kc P = Kc P) := by
  k_fill
  exact ⟨rfl, fun _ => rfl⟩

theorem byte_nat {n : Int} (h0 : 0 ≤ n) (h1 : n < 256) : (((n.toNat.toUInt8).toNat : Nat) : Int) = n := byte_back h0 h1
theorem kind_good (nb : Int) : GoodC (kindB nb, dataB nb) ∧ (kindB nb, dataB nb).1.toList ≠ [73, 69, 78, 68] := by
  have a1 := Int.fmod_nonneg_of_pos (nb.fdiv 2) (b := 26) (by decide)
  have b1 := Int.fmod_lt_of_pos (nb.fdiv 2) (b := 26) (by decide)
  have a2 := Int.fmod_nonneg_of_pos (nb.fdiv 52) (b := 26) (by decide)
  have b2 := Int.fmod_lt_of_pos (nb.fdiv 52) (b := 26) (by decide)
  have a3 := Int.fmod_nonneg_of_pos (nb.fdiv 3) (b := 26) (by decide)
  have b3 := Int.fmod_lt_of_pos (nb.fdiv 3) (b := 26) (by decide)
  have a4 := Int.fmod_nonneg_of_pos nb (b := 26) (by decide)
  have b4 := Int.fmod_lt_of_pos nb (b := 26) (by decide)
  have a5 := Int.fmod_nonneg_of_pos (nb.fdiv 5) (b := 7) (by decide)
  have b5 := Int.fmod_lt_of_pos (nb.fdiv 5) (b := 7) (by decide)
  refine ⟨⟨rfl, ?_, fun k hk => ?_⟩, fun e => ?_⟩
  · show (dataB nb).size ≤ 100
    rw [byteArr_size, List.length_map, rangeKs_length]
    omega
  · simp only [octInts, kindI, List.map_cons, List.map_nil, List.any_cons, List.any_nil, Bool.or_false, Bool.or_eq_true, beq_iff_eq] at hk
    rw [byte_nat (by omega) (by omega), byte_nat (by omega) (by omega), byte_nat (by omega) (by omega), byte_nat (by omega) (by omega)] at hk
    unfold letters between
    rw [Bool.or_eq_true, decide_eq_true_eq, decide_eq_true_eq]
    rcases hk with h | h | h | h <;> omega
  · simp only [kindI, List.map_cons, List.map_nil, List.cons.injEq] at e
    have h := congrArg (fun x : UInt8 => ((x.toNat : Nat) : Int)) e.1
    rw [byte_nat (by omega) (by omega)] at h
    have : (((73 : UInt8).toNat : Nat) : Int) = 73 := rfl
    omega
theorem allLt_mem {D : Addr} {l : List (Addr × Obj)} (h : AllLt D l) : ∀ p ∈ l, @LT.lt Nat _ p.1 D := by
  induction l with
  | nil => intro p hp; cases hp
  | cons a l ih =>
    intro p hp
    rcases List.mem_cons.mp hp with rfl | hp
    · exact h.1
    · exact ih h.2 p hp
theorem permL {a b c d e : Addr × Obj} {l r : List (Addr × Obj)} : ∀ p ∈ a :: b :: c :: e :: (d :: l ++ r), p ∈ a :: b :: c :: d :: e :: (l ++ r) := fun p hp => by
  simp only [List.mem_cons, List.mem_append] at hp ⊢
  rcases hp with h | h | h | h | (h | h) | h <;> simp [h]
theorem FileAt.sub {a b : List (Addr × Obj)} {v : Value} {ks : List Chunk} (h : FileAt a v ks) (hs : ∀ p ∈ a, p ∈ b) : FileAt b v ks := by
  obtain ⟨c, vals, n, e, hm, hp⟩ := h
  exact ⟨c, vals, n, e, hs _ hm, hp.imp fun _ _ x => x.sub hs⟩
theorem ints_get {vs : List Value} {ns : List Int} (h : IntsAre vs ns) : ∀ {i : Nat} {v : Value}, vs[i]? = some v → ∃ n t, v = .int n t := by
  induction h with
  | nil => intro i v e; simp at e
  | cons n t _ ih =>
    intro i v e
    cases i with
    | zero => exact ⟨n, t, (Option.some.inj e).symm⟩
    | succ i => exact ih e
noncomputable def BInv (s₀ : Shared) (h₀ : Heap) (L cA fl it l : Addr) (rest : List (Addr × Obj)) (i : Nat) (s' : Shared) : Prop :=
  ∃ h tk m' cO v₀ oit fv c nf vals n others fss ks, s' = { s₀ with heap := h, toks := tk } ∧ m' (Str.ofString "files") = some (.ref fl) ∧ cO.data = .cell v₀ ∧ Fr h₀ L h m' ∧
    News h₀ L h ((cA, cO) :: (fl, lstObj (fv ++ [.ref c]) nf) :: (c, lstObj vals n) :: (it, oit) :: (others ++ rest)) ∧ IterO oit l i ∧ All2 (FileAt others) fv fss ∧ All2 (PairN others) vals ks ∧
    (∀ k ∈ fss ++ [ks], (∀ c ∈ k, GoodC c ∧ c.1.toList ≠ [73, 69, 78, 68]) ∧ k.length ≤ i) ∧ fss.length ≤ i ∧ (@Ne Nat c cA ∧ @Ne Nat c fl ∧ @Ne Nat c it ∧ c ∉ rest.map (·.1)) ∧
    (∀ p ∈ others, @Ne Nat p.1 cA ∧ @Ne Nat p.1 fl ∧ @Ne Nat p.1 it ∧ @Ne Nat p.1 c)

theorem build_body {prog : Program} {w : World} {p : Program} {loose : List Str} {mean : ExcName → Option Value} {mg mb : Str → Option Value}
  {dp un : Nat} {gd : Option (List Code)} {cA : Addr} {outer : List Env} {A₀ : Around} {base h₀ : Heap} {L : Addr} {m : Str → Option Value} {s : Shared} {Q E : Value → Shared → Prop} {it fl c : Addr} {oit cO : Obj} {nb : Int} {tn : Tok} {fv vals : List Value} {nf n i l : Nat} {rest others : List (Addr × Obj)} {fss : List (List Chunk)} {ks : List Chunk} {Qf : Flow → Shared → Prop}
  (B : Below A₀ base outer h₀) (F : Fr h₀ L s.heap m) (X : (Kc w.params).In h₀) (N : News h₀ L s.heap ((cA, cO) :: (fl, lstObj (fv ++ [.ref c]) nf) :: (c, lstObj vals n) :: (it, oit) :: (others ++ rest))) (T : Top p loose mean mg mb h₀) (hf : m (Str.ofString "files") = some (.ref fl)) (hcO : cO.data = .cell (some (.int nb tn))) (hd : dp ≤ 350) (hu : un ≤ 330)
  (hit : IterO oit l (i + 1)) (hfs : All2 (FileAt others) fv fss) (hps : All2 (PairN others) vals ks) (hg : ∀ k ∈ fss ++ [ks], (∀ c ∈ k, GoodC c ∧ c.1.toList ≠ [73, 69, 78, 68]) ∧ k.length ≤ i) (hfl : fss.length ≤ i) (hi : i ≤ 900)
  (hc : @Ne Nat c cA ∧ @Ne Nat c fl ∧ @Ne Nat c it ∧ c ∉ rest.map (·.1)) (ho : ∀ p ∈ others, @Ne Nat p.1 cA ∧ @Ne Nat p.1 fl ∧ @Ne Nat p.1 it ∧ @Ne Nat p.1 c)
  (h1 : @Ne Nat cA fl) (h2 : @Ne Nat cA it) (h3 : @Ne Nat fl it) (hr : ∀ p ∈ rest, @Ne Nat p.1 cA ∧ @Ne Nat p.1 fl ∧ @Ne Nat p.1 it)
  (ret : ∀ s', BInv s h₀ L cA fl it l rest (i + 1) s' → Qf .next s') :
  wpH (model prog w) (ktrTop dp un gd (Str.ofString "law") s702.1 L 702 (.ref 701) [(Str.ofString "number", cA)] outer) (execs [.If lawB.1.2.2.2.1 [lawB.1.2.2.2.2.1] [lawB.1.2.2.2.2.2.1, lawB.1.2.2.2.2.2.2.1] lawB.1.2.2.2.2.2.2.2.1] (envX (Str.ofString "law") s702.1 L 702 (.ref 701) [(Str.ofString "number", cA)])) Qf E s := by
  have hor : ∀ p ∈ others ++ rest, @Ne Nat p.1 cA ∧ @Ne Nat p.1 fl ∧ @Ne Nat p.1 it := fun p hp => by
    rcases List.mem_append.mp hp with hp | hp
    · exact ⟨(ho p hp).1, (ho p hp).2.1, (ho p hp).2.2.1⟩
    · exact hr p hp
  have hfvl : fv.length ≤ 900 := by rw [hfs.length]; omega
  have hvl : vals.length ≤ 1000 := by
    have := (hg ks (List.mem_append.mpr (.inr (.head _)))).2
    rw [hps.length]; omega
  refine execsH_next ?_
  refine wpAny_If (test_five (Q := Q) B F X N T hcO hd hu ?_)
  intro tk b
  cases b with
  | true =>
    rw [if_pos rfl]
    refine wpAny_execs_cons (build_new (Q := Q) B F X N T hd hu hf h1 ?_ ?_ ?_)
    · intro p hp
      simp only [List.mem_cons] at hp
      rcases hp with rfl | rfl | hp
      · exact hc.2.1
      · exact Ne.symm h3
      · exact (hor p hp).2.1
    · rw [List.length_append]
      show fv.length + 1 ≤ 1000
      omega
    · intro h' tk' c' F' N' l1 l2 l3
      dsimp only
      refine wpAny_execs_nil ?_
      dsimp only
      have lr := allLt_mem l3
      have n1 : ∀ p ∈ others ++ rest, @Ne Nat p.1 c' := fun p hp => Nat.ne_of_lt (lr p (.tail _ (.tail _ hp)))
      refine execsH_nil (ret _ ?_)
      unfold BInv
      refine ⟨h', tk', m, cO, some (.int nb tn), oit, fv ++ [.ref c], c', nf + 1, [], 0, (c, lstObj vals n) :: others, fss ++ [ks], [], ?_, hf, hcO, F', news_sub N' permL, hit, ?_, .nil, ?_, ?_, ⟨Ne.symm (Nat.ne_of_lt l1), Ne.symm (Nat.ne_of_lt l2), Ne.symm (Nat.ne_of_lt (lr _ (.tail _ (.head _)))), ?_⟩, ?_⟩
      · rfl
      · exact (hfs.imp fun _ _ x => x.sub fun p hp => .tail _ hp).snoc ⟨c, vals, n, rfl, .head _, hps.imp fun _ _ x => x.sub fun p hp => .tail _ hp⟩
      · intro k hk'
        rcases List.mem_append.mp hk' with hk' | hk'
        · exact ⟨(hg k hk').1, Nat.le_succ_of_le (hg k hk').2⟩
        · rw [List.mem_singleton.mp hk']
          exact ⟨fun c hm => absurd hm List.not_mem_nil, Nat.zero_le _⟩
      · rw [List.length_append]
        show fss.length + 1 ≤ i + 1
        omega
      · intro hm
        obtain ⟨p, hp, e⟩ := List.mem_map.mp hm
        exact n1 p (List.mem_append.mpr (.inr hp)) e
      · intro p hp
        rcases List.mem_cons.mp hp with rfl | hp
        · exact ⟨hc.1, hc.2.1, hc.2.2.1, Nat.ne_of_lt (lr _ (.head _))⟩
        · exact ⟨(ho p hp).1, (ho p hp).2.1, (ho p hp).2.2.1, n1 p (List.mem_append.mpr (.inl hp))⟩
  | false =>
    rw [if_neg Bool.false_ne_true]
    refine wpAny_execs_cons (build_kind (Q := Q) B F X N T hcO hd hu ?_)
    intro h2' tk2 t2 F2 N2
    dsimp only
    refine wpAny_execs_cons (build_app (Q := Q) B F2 X N2 T hcO hd hu (by show (if Str.ofString "files" = Str.ofString "kind" then _ else _) = _; rw [if_neg (by decide)]; exact hf) rfl h1 (Ne.symm hc.1) (Ne.symm hc.2.1) ?_ hvl ?_)
    · intro p hp
      rcases List.mem_cons.mp hp with rfl | hp
      · exact Ne.symm hc.2.2.1
      · rcases List.mem_append.mp hp with hp | hp
        · exact (ho p hp).2.2.2
        · exact fun e => hc.2.2.2 (e ▸ List.mem_map_of_mem hp)
    · intro h' tk' T9 u1 u2 F' N' l1 l2 l3 l4
      dsimp only
      refine wpAny_execs_nil ?_
      dsimp only
      have lr := allLt_mem l4
      refine execsH_nil (ret _ ?_)
      unfold BInv
      refine ⟨h', tk', (fun y => if y = Str.ofString "kind" then some (.bytes (kindB nb) t2) else m y), cO, some (.int nb tn), oit, fv, c, nf, vals ++ [.ref T9], n + 1, (T9, tupObj [.bytes (kindB nb) u1, .bytes (dataB nb) u2] 0) :: others, fss, ks ++ [(kindB nb, dataB nb)], ?_, ?_, hcO, F', news_sub N' permL, hit, ?_, ?_, ?_, Nat.le_succ_of_le hfl, hc, ?_⟩
      · rfl
      · show (if Str.ofString "files" = Str.ofString "kind" then _ else _) = _
        rw [if_neg (by decide)]
        exact hf
      · exact hfs.imp fun _ _ x => x.sub fun p hp => .tail _ hp
      · exact (hps.imp fun _ _ x => x.sub fun p hp => .tail _ hp).snoc ⟨T9, 0, u1, u2, rfl, .head _⟩
      · intro k hk'
        rcases List.mem_append.mp hk' with hk' | hk'
        · have := hg k (List.mem_append.mpr (.inl hk'))
          exact ⟨this.1, Nat.le_succ_of_le this.2⟩
        · rw [List.mem_singleton.mp hk']
          have := hg ks (List.mem_append.mpr (.inr (.head _)))
          refine ⟨fun c' hm => ?_, ?_⟩
          · rcases List.mem_append.mp hm with hm | hm
            · exact this.1 c' hm
            · rw [List.mem_singleton.mp hm]
              exact kind_good nb
          · rw [List.length_append]
            show ks.length + 1 ≤ i + 1
            omega
      · intro p hp
        rcases List.mem_cons.mp hp with rfl | hp
        · exact ⟨Ne.symm (Nat.ne_of_lt l1), Ne.symm (Nat.ne_of_lt l2), Ne.symm (Nat.ne_of_lt (lr _ (.head _))), Ne.symm (Nat.ne_of_lt l3)⟩
        · exact ho p hp
end Mine
end
-- M22
section
open PySem PySem.W PySem.W.X PyProof.Rows PySem.Calls PySem.Spec
set_option Elab.async false
set_option maxRecDepth 100000
set_option maxHeartbeats 4000000
namespace Mine
theorem reset_M22 : True := by
  w_top off
  trivial
theorem warm22 : (PySem.Challenge.rw_ar0037_04 = PySem.Challenge.rw_ar0037_04) ∧ (∀ P, Kc P = Kc P) := by
  k_fill
  exact ⟨rfl, fun _ => rfl⟩

local macro_rules | `(tactic| walk_at "eval Name") => `(tactic| (k_here; k_dflt (refine' nameX_L ?F ?hv ?_; (case F => k_asm); (case hv => assumption); k_whole)))

theorem build_iter {prog : Program} {w : World} {p : Program} {loose : List Str} {mean : ExcName → Option Value} {mg mb : Str → Option Value}
  {dp un : Nat} {gd : Option (List Code)} {cA : Addr} {outer : List Env} {A₀ : Around} {base h₀ : Heap} {L : Addr} {m : Str → Option Value} {s : Shared} {Q E : Value → Shared → Prop} {sc : Addr} {vs : List Value} {ns : List Int} {rest : List (Addr × Obj)}
  (B : Below A₀ base outer h₀) (F : Fr h₀ L s.heap m) (X : (Kc w.params).In h₀) (N : News h₀ L s.heap (rest)) (T : Top p loose mean mg mb h₀) (hm : m (Str.ofString "script") = some (.ref sc)) (hl : h₀.IsList sc vs.toArray) (hi : IntsAre vs ns) (hn : ns.length ≤ 63) (hd : dp ≤ 350) (hu : un ≤ 330)
  (ret : ∀ h' tk' D ws ks nl, ks.length ≤ 6 → IntsAre ws ks → Fr h₀ L h' m → News h₀ L h' ((D, lstObj ws nl) :: rest) → (∀ p ∈ rest, p.1 < D) → Q (.ref D) { s with heap := h', toks := tk' }) :
  wpAny (model prog w) (ktrTop dp un gd (Str.ofString "law") s702.1 L 702 (.ref 701) [(Str.ofString "number", cA)] outer) (eval lawB.1.2.2.1 (envX (Str.ofString "law") s702.1 L 702 (.ref 701) [(Str.ofString "number", cA)])) Q E s := by
  dsimp only [lawB, lawFor, b702, s702] at *
  k_steps
  · rename_i D ws h1 F1 N1 l1 hI hC hL
    exact ret _ _ _ ws (ns.take 6) 0 (by rw [List.length_take]; omega) hI F1 N1 l1
  · rename_i D h1 F1 N1 l1
    exact ret _ _ _ [Value.int 11 (s.toks + 1 + 1 + 1), Value.int 5 (s.toks + 1 + 1 + 1 + 1), Value.int 23 (s.toks + 1 + 1 + 1 + 1 + 1)] [11, 5, 23] 0 (by decide) (.cons _ _ (.cons _ _ (.cons _ _ .nil))) F1 N1 l1
/-- a turn of the building loop -/
theorem build_turn {prog : Program} {w : World} {p : Program} {loose : List Str} {mean : ExcName → Option Value} {mg mb : Str → Option Value}
  {dp un : Nat} {gd : Option (List Code)} {cA : Addr} {outer : List Env} {A₀ : Around} {base h₀ : Heap} {L : Addr} {m : Str → Option Value} {s : Shared} {Q E : Value → Shared → Prop} {s₀ : Shared} {fl it l : Addr} {ws : List Value} {ns : List Int} {nl i : Nat} {rest : List (Addr × Obj)} {Rr : Result → Shared → Prop} {I : Nat → Shared → Prop}
  (B : Below A₀ base outer h₀) (X : (Kc w.params).In h₀) (T : Top p loose mean mg mb h₀) (hd : dp ≤ 350) (hu : un ≤ 330) (hws : IntsAre ws ns) (hn : ns.length ≤ 6) (hml : (l, lstObj ws nl) ∈ rest) (hle : i ≤ ns.length)
  (h1 : @Ne Nat cA fl) (h2 : @Ne Nat cA it) (h3 : @Ne Nat fl it) (hr : ∀ p ∈ rest, @Ne Nat p.1 cA ∧ @Ne Nat p.1 fl ∧ @Ne Nat p.1 it)
  (hI : BInv s₀ h₀ L cA fl it l rest i s)
  (next : i < ns.length → ∀ s', BInv s₀ h₀ L cA fl it l rest (i + 1) s' → ∃ k, k < ns.length + 1 - i ∧ I k s')
  (done : ∀ h' tk' m' cO v₀ fv nf others fss, m' (Str.ofString "files") = some (.ref fl) → cO.data = .cell v₀ → Fr h₀ L h' m' → News h₀ L h' ((cA, cO) :: (fl, lstObj fv nf) :: (others ++ rest)) → All2 (FileAt others) fv fss →
    (∀ k ∈ fss, (∀ c ∈ k, GoodC c ∧ c.1.toList ≠ [73, 69, 78, 68]) ∧ k.length ≤ 6) → fss.length ≤ 7 → (∀ p ∈ others, @Ne Nat p.1 cA ∧ @Ne Nat p.1 fl) → Rr (.ok .next) { s₀ with heap := h', toks := tk' }) :
  wpAny (model prog w) (ktrTop dp un gd (Str.ofString "law") s702.1 L 702 (.ref 701) [(Str.ofString "number", cA)] outer) (pyNext (.ref it)) (fun r s₁ => match r with
      | none => wpH (model prog w) (ktrTop dp un gd (Str.ofString "law") s702.1 L 702 (.ref 701) [(Str.ofString "number", cA)] outer) (execs [] (envX (Str.ofString "law") s702.1 L 702 (.ref 701) [(Str.ofString "number", cA)])) (fun f s₃ => Rr (.ok f) s₃) (fun _ _ => False) s₁
      | some v => wpAny (model prog w) (ktrTop dp un gd (Str.ofString "law") s702.1 L 702 (.ref 701) [(Str.ofString "number", cA)] outer) (assign lawB.1.2.1 (envX (Str.ofString "law") s702.1 L 702 (.ref 701) [(Str.ofString "number", cA)]) v) (fun _ s₂ => wpH (model prog w) (ktrTop dp un gd (Str.ofString "law") s702.1 L 702 (.ref 701) [(Str.ofString "number", cA)] outer) (execs [.If lawB.1.2.2.2.1 [lawB.1.2.2.2.2.1] [lawB.1.2.2.2.2.2.1, lawB.1.2.2.2.2.2.2.1] lawB.1.2.2.2.2.2.2.2.1] (envX (Str.ofString "law") s702.1 L 702 (.ref 701) [(Str.ofString "number", cA)])) (fun f s₃ => match f with
          | .next | .cont => ∃ k, k < ns.length + 1 - i ∧ I k s₃
          | .brk => Rr (.ok .next) s₃
          | .ret v => Rr (.ok (.ret v)) s₃) (fun _ _ => False) s₂) (fun _ _ => False) s₁) (fun _ _ => False) s := by
  unfold BInv at hI
  obtain ⟨h, tk, m', cO, v₀, oit, fv, c, nf, vals, n, others, fss, ks, rfl, hf, hcO, F, N, hit, hfs, hps, hg, hfl, hc, ho⟩ := hI
  have nit := N _ (.tail _ (.tail _ (.tail _ (.head _))))
  have nl1 := N _ (.tail _ (.tail _ (.tail _ (.tail _ (List.mem_append.mpr (.inr hml))))))
  have IL : h.IsList l ws.toArray := ⟨_, nl1.1, rfl, _, rfl⟩
  by_cases hlt : i < ns.length
  · obtain ⟨v, hv⟩ : ∃ v, ws[i]? = some v := ⟨ws[i]'(by rw [hws.length]; exact hlt), by simp [hws.length, hlt]⟩
    obtain ⟨nb, tn, rfl⟩ := ints_get hws hv
    refine wpAny_pyNext_list_item (hit.is nit.1) IL (x := .int nb tn) (by simpa using hv) ?_
    intro h2' hit2 sb2
    obtain ⟨oit2, e2, hoit2⟩ := iterO_of hit2
    have F2 : Fr h₀ L h2' m' := F.change sb2 nit.2.1 nit.2.2
    have N2 : News h₀ L h2' ((cA, cO) :: (fl, lstObj (fv ++ [.ref c]) nf) :: (c, lstObj vals n) :: (it, oit2) :: (others ++ rest)) := fun p hp => by
      have keep : ∀ q ∈ (cA, cO) :: (fl, lstObj (fv ++ [.ref c]) nf) :: (c, lstObj vals n) :: (it, oit) :: (others ++ rest), q.1 ≠ it → h2'.get? q.1 = some q.2 ∧ q.1 ≠ L ∧ h₀.get? q.1 = none := fun q hq hne => ⟨(sb2.2 _ hne).trans (N q hq).1, (N q hq).2⟩
      simp only [List.mem_cons] at hp
      rcases hp with rfl | rfl | rfl | rfl | hp
      · exact keep _ (.head _) h2
      · exact keep _ (.tail _ (.head _)) h3
      · exact keep _ (.tail _ (.tail _ (.head _))) hc.2.2.1
      · exact ⟨e2, nit.2⟩
      · refine keep _ (.tail _ (.tail _ (.tail _ (.tail _ hp)))) ?_
        rcases List.mem_append.mp hp with hp | hp
        · exact (ho p hp).2.2.1
        · exact (hr p hp).2.2
    refine (show wpAny _ _ (assign (.Name _ _) _ _) _ _ _ from wpAny_assign_Name (storeX_C F2 N2 rfl (.head ?_) hcO ?_))
    · intro p hp
      simp only [List.mem_cons] at hp
      rcases hp with rfl | rfl | rfl | hp
      · exact Ne.symm h1
      · exact hc.1
      · exact Ne.symm h2
      · rcases List.mem_append.mp hp with hp | hp
        · exact (ho p hp).1
        · exact (hr p hp).1
    · intro h3' o' F3 N3 hd3
      refine build_body (Q := Q) B F3 X N3 T hf hd3 hd hu hoit2 hfs hps hg hfl (by omega) hc ho h1 h2 h3 hr ?_
      intro s' hB
      obtain ⟨k, hk, hIk⟩ := next hlt s' hB
      exact ⟨k, hk, hIk⟩
  · refine wpAny_pyNext_list_end rfl (hit.is nit.1) IL (by simp [hws.length]; omega) ?_
    intro h2' eb
    refine execsH_nil ?_
    refine done h2' tk m' cO v₀ (fv ++ [.ref c]) nf ((c, lstObj vals n) :: others) (fss ++ [ks]) hf hcO ?_ ?_ ?_ ?_ ?_ ?_
    · obtain ⟨oL, a1, a2, hL, a3⟩ := F.ns
      exact ⟨⟨oL, a1, a2, eb _ _ (Ne.symm nit.2.1) hL, a3⟩, fun b o e => eb b o (fun q => by rw [q] at e; rw [nit.2.2] at e; cases e) (F.keep b o e), F.above⟩
    · intro p hp
      have keep : ∀ q ∈ (cA, cO) :: (fl, lstObj (fv ++ [.ref c]) nf) :: (c, lstObj vals n) :: (it, oit) :: (others ++ rest), q.1 ≠ it → h2'.get? q.1 = some q.2 ∧ q.1 ≠ L ∧ h₀.get? q.1 = none := fun q hq hne => ⟨eb _ _ hne (N q hq).1, (N q hq).2⟩
      simp only [List.mem_cons, List.cons_append] at hp
      rcases hp with rfl | rfl | rfl | hp
      · exact keep _ (.head _) h2
      · exact keep _ (.tail _ (.head _)) h3
      · exact keep _ (.tail _ (.tail _ (.head _))) hc.2.2.1
      · refine keep _ (.tail _ (.tail _ (.tail _ (.tail _ hp)))) ?_
        rcases List.mem_append.mp hp with hp | hp
        · exact (ho p hp).2.2.1
        · exact (hr p hp).2.2
    · exact (hfs.imp fun _ _ x => x.sub fun p hp => .tail _ hp).snoc ⟨c, vals, n, rfl, .head _, hps.imp fun _ _ x => x.sub fun p hp => .tail _ hp⟩
    · intro k hk
      exact ⟨(hg k hk).1, Nat.le_trans (hg k hk).2 (Nat.le_trans hle hn)⟩
    · rw [List.length_append]
      show fss.length + 1 ≤ 7
      omega
    · intro p hp
      rcases List.mem_cons.mp hp with rfl | hp
      · exact ⟨hc.1, hc.2.1⟩
      · exact ⟨(ho p hp).1, (ho p hp).2.1⟩
end Mine
end
-- M23
section
open PySem PySem.W PySem.W.X PyProof.Rows PySem.Calls PySem.Spec
set_option Elab.async false
set_option maxRecDepth 100000
set_option maxHeartbeats 4000000
namespace Mine
theorem warm23 : (PySem.Challenge.rw_ar0037_04 = PySem.Challenge.rw_ar0037_04) ∧ (∀ P, Kc P = Kc P) := by
  k_fill
  exact ⟨rfl, fun _ => rfl⟩

theorem permM {t a b c d : Addr × Obj} {l : List (Addr × Obj)} : ∀ p ∈ a :: b :: c :: t :: ([] ++ d :: l), p ∈ t :: d :: a :: b :: c :: l := fun p hp => by
  simp only [List.mem_cons, List.nil_append] at hp ⊢
  rcases hp with h | h | h | h | h | h <;> simp [h]
theorem permN {a b d : Addr × Obj} {o l : List (Addr × Obj)} : ∀ p ∈ a :: b :: (o ++ l), p ∈ a :: b :: (o ++ d :: l) := fun p hp => by
  simp only [List.mem_cons, List.mem_append] at hp ⊢
  rcases hp with h | h | h | h <;> simp [h]
theorem build_for {prog : Program} {w : World} {p : Program} {loose : List Str} {mean : ExcName → Option Value} {mg mb : Str → Option Value}
  {dp un : Nat} {gd : Option (List Code)} {cA : Addr} {outer : List Env} {A₀ : Around} {base h₀ : Heap} {L : Addr} {m : Str → Option Value} {s : Shared} {Q E : Value → Shared → Prop} {Qf : Flow → Shared → Prop} {sc fl c : Addr} {vs : List Value} {ns : List Int} {nf n : Nat} {cO : Obj} {v₀ : Option Value} {rest : List (Addr × Obj)}
  (B : Below A₀ base outer h₀) (F : Fr h₀ L s.heap m) (X : (Kc w.params).In h₀) (N : News h₀ L s.heap ((cA, cO) :: (fl, lstObj [.ref c] nf) :: (c, lstObj [] n) :: rest)) (T : Top p loose mean mg mb h₀) (hcO : cO.data = .cell v₀) (hm : m (Str.ofString "script") = some (.ref sc)) (hf : m (Str.ofString "files") = some (.ref fl)) (hl : h₀.IsList sc vs.toArray) (hi : IntsAre vs ns) (hn : ns.length ≤ 63) (hd : dp ≤ 350) (hu : un ≤ 330)
  (h1 : @Ne Nat cA fl) (h2 : @Ne Nat c cA) (h3 : @Ne Nat c fl) (hr : ∀ p ∈ rest, @Ne Nat p.1 cA ∧ @Ne Nat p.1 fl ∧ @Ne Nat p.1 c)
  (ret : ∀ h' tk' m' cO v₀ fv nf others fss, m' (Str.ofString "files") = some (.ref fl) → cO.data = .cell v₀ → Fr h₀ L h' m' → News h₀ L h' ((cA, cO) :: (fl, lstObj fv nf) :: (others ++ rest)) → All2 (FileAt others) fv fss →
    (∀ k ∈ fss, (∀ c ∈ k, GoodC c ∧ c.1.toList ≠ [73, 69, 78, 68]) ∧ k.length ≤ 6) → fss.length ≤ 7 → (∀ p ∈ others, @Ne Nat p.1 cA ∧ @Ne Nat p.1 fl) → Qf .next { s with heap := h', toks := tk' }) :
  wpH (model prog w) (ktrTop dp un gd (Str.ofString "law") s702.1 L 702 (.ref 701) [(Str.ofString "number", cA)] outer) (exec lawFor.1.2.1 (envX (Str.ofString "law") s702.1 L 702 (.ref 701) [(Str.ofString "number", cA)])) Qf E s := by
  rw [lawB.2]
  refine ForH (build_iter B F X N T hm hl hi hn hd hu ?_)
  intro h1' tk1 D ws ns' nl hns hws F1 N1 lD
  have hD := N1 _ (.head _)
  refine wpAny_pyIter_list ⟨_, hD.1, rfl, _, rfl⟩ ?_
  have lt1 : ∀ p ∈ (D, lstObj ws nl) :: (cA, cO) :: (fl, lstObj [.ref c] nf) :: (c, lstObj [] n) :: rest, @LT.lt Nat _ p.1 h1'.objs.size := fun p hp => Heap.lt_size (N1 p hp).1
  have lD' : ∀ p ∈ (cA, cO) :: (fl, lstObj [.ref c] nf) :: (c, lstObj [] n) :: rest, @LT.lt Nat _ p.1 D := fun p hp => lD p hp
  have I0 : BInv { s with heap := h1', toks := tk1 } h₀ L cA fl h1'.objs.size D ((D, lstObj ws nl) :: rest) 0 { s with heap := h1'.push { cls := .type "list_iterator", data := .fields #[.ref D, .int 0 0] }, toks := tk1 } := by
    unfold BInv
    refine ⟨_, tk1, m, cO, v₀, { cls := .type "list_iterator", data := .fields #[.ref D, .int 0 0] }, [], c, nf, [], n, [], [], [], rfl, hf, hcO, F1.push _, ?_, ⟨rfl, rfl⟩, .nil, .nil, ?_, Nat.le_refl _, ?_, fun _ h => absurd h List.not_mem_nil⟩
    · have NP := News.push F1 N1 ({ cls := .type "list_iterator", data := .fields #[.ref D, .int 0 0] } : Obj)
      exact news_sub NP permM
    · intro k hk
      have : k = [] := by simpa using hk
      rw [this]
      exact ⟨fun c h => absurd h List.not_mem_nil, Nat.zero_le _⟩
    · refine ⟨h2, h3, Nat.ne_of_lt (lt1 _ (.tail _ (.tail _ (.tail _ (.head _))))), ?_⟩
      intro hmm
      rw [List.map_cons, List.mem_cons] at hmm
      rcases hmm with e | hmm
      · exact Nat.ne_of_lt (lD' _ (.tail _ (.tail _ (.head _)))) e
      · obtain ⟨p, hp, e⟩ := List.mem_map.mp hmm
        exact (hr p hp).2.2 e
  refine codeH_forLoop (fun k s' => ∃ i, k + i = ns'.length + 1 ∧ i ≤ ns'.length ∧ BInv { s with heap := h1', toks := tk1 } h₀ L cA fl h1'.objs.size D ((D, lstObj ws nl) :: rest) i s') ?_ (ns'.length + 1) ⟨0, rfl, Nat.zero_le _, I0⟩
  intro k s' hI
  obtain ⟨i, hk, hle, hI⟩ := hI
  have ek : k = ns'.length + 1 - i := by omega
  subst ek
  refine build_turn (Q := Q) (E := E) (m := m) (Rr := fun r s' => ∃ f, r = .ok f ∧ Qf f s') (I := fun k s' => ∃ i, k + i = ns'.length + 1 ∧ i ≤ ns'.length ∧ BInv { s with heap := h1', toks := tk1 } h₀ L cA fl h1'.objs.size D ((D, lstObj ws nl) :: rest) i s') B X T hd hu hws hns (.head _) hle h1 (Nat.ne_of_lt (lt1 _ (.tail _ (.head _)))) (Nat.ne_of_lt (lt1 _ (.tail _ (.tail _ (.head _))))) ?_ hI ?_ ?_
  · intro p hp
    rcases List.mem_cons.mp hp with rfl | hp
    · exact ⟨Ne.symm (Nat.ne_of_lt (lD' _ (.head _))), Ne.symm (Nat.ne_of_lt (lD' _ (.tail _ (.head _)))), Nat.ne_of_lt (lt1 _ (.head _))⟩
    · exact ⟨(hr p hp).1, (hr p hp).2.1, Nat.ne_of_lt (lt1 _ (.tail _ (.tail _ (.tail _ (.tail _ hp)))))⟩
  · intro hlt s'' hB
    exact ⟨ns'.length - i, by omega, i + 1, by omega, by omega, hB⟩
  · intro h' tk' m' cO' v₀' fv' nf' others fss e1 e2 F2 N2 e3 e4 e5 e6
    exact ⟨_, rfl, ret h' tk' m' cO' v₀' fv' nf' others fss e1 e2 F2 (news_sub N2 permN) e3 e4 e5 e6⟩
end Mine
end
-- M24
section
open PySem PySem.W PySem.W.X PyProof.Rows PySem.Calls PySem.Spec
set_option Elab.async false
set_option maxRecDepth 100000
set_option maxHeartbeats 4000000
namespace Mine
local macro_rules | `(tactic| walk_at "none at all") => `(tactic| fail)
local macro_rules | `(tactic| walk_at "none at all") => `(tactic| fail)
theorem reset_M24 : True := by
  w_top off
  trivial
theorem warm24 : (PySem.Challenge.rw_ar0037_04 = PySem.Challenge.rw_ar0037_04) ∧ (∀ P, Kc P = Kc P) := by
  k_fill
  exact ⟨rfl, fun _ => rfl⟩

noncomputable def bitI (o r k : Int) : Int := if (Builtin.bitXor r (o.fdiv (2 ^ k.toNat))).fmod 2 = 1 then Builtin.bitXor (r.fdiv (2 ^ (1 : Int).toNat)) 3988292384 else r.fdiv (2 ^ (1 : Int).toNat)
theorem bitI_nat (o r k : Nat) : bitI (o : Int) (r : Int) (k : Int) = ((bitStep r (o >>> k) : Nat) : Int) := by
  unfold bitI bitStep
  have e1 : (o : Int).fdiv (2 ^ (k : Int).toNat) = ((o >>> k : Nat) : Int) := by
    rw [Int.toNat_natCast, Nat.shiftRight_eq_div_pow, Int.fdiv_eq_ediv_of_nonneg _ (Int.pow_nonneg (by decide))]
    push_cast
    rfl
  have e2 : (r : Int).fdiv (2 ^ (1 : Int).toNat) = ((r >>> 1 : Nat) : Int) := by
    rw [Nat.shiftRight_eq_div_pow, Int.fdiv_eq_ediv_of_nonneg _ (by decide)]
    rfl
  rw [e1, e2, bitXor_nat]
  have e3 : (((r ^^^ o >>> k : Nat) : Int).fmod 2 = 1) ↔ ((r ^^^ o >>> k) % 2 = 1) := by
    rw [Int.fmod_eq_emod_of_nonneg _ (by decide)]
    omega
  by_cases h : (r ^^^ o >>> k) % 2 = 1
  · rw [if_pos (e3.mpr h), if_pos h]
    exact bitXor_nat _ 3988292384
  · rw [if_neg (fun x => h (e3.mp x)), if_neg h, Nat.xor_zero]
theorem foldI (o : Nat) : ∀ (l : List Nat) (r : Nat), (l.map fun (i : Nat) => (0 : Int) + (i : Int)).foldl (bitI (o : Int)) (r : Int) = ((l.foldl (fun r k => bitStep r (o >>> k)) r : Nat) : Int)
  | [], r => rfl
  | k :: l, r => by
    rw [List.map_cons, List.foldl_cons, List.foldl_cons, Int.zero_add, bitI_nat]
    exact foldI o l _
theorem turn_law {kPre : List Int} {kN v : Int} (h : v = ((lawFold (kPre.map Int.toNat) M32 : Nat) : Int)) (h0 : 0 ≤ kN) : (rangeKs 0 8).foldl (bitI kN) v = ((lawFold ((kPre ++ [kN]).map Int.toNat) M32 : Nat) : Int) := by
  obtain ⟨o, rfl⟩ := Int.eq_ofNat_of_zero_le h0
  subst h
  rw [List.map_append]
  unfold lawFold
  rw [List.foldl_append]
  exact foldI o (List.range 8) _
theorem end_law {D : Array UInt8} {v : Int} (h : v = ((lawFold ((D.toList.map fun c => (c.toNat : Int)).map Int.toNat) M32 : Nat) : Int)) : 2 ^ Int.toNat 32 - 1 - v = ((crcFold (D.toList.map UInt8.toNat) 0 : Nat) : Int) := by
  have e : (D.toList.map fun c => (c.toNat : Int)).map Int.toNat = D.toList.map UInt8.toNat := by rw [List.map_map]; rfl
  rw [e] at h
  have h1 := sums_meet (D.toList.map UInt8.toNat) octs_lt
  have h2 := lawFold_lt (D.toList.map UInt8.toNat) M32 octs_lt (by decide)
  rw [h1, h]
  have h3 : (2 ^ Int.toNat 32 - 1 : Int) = 4294967295 := by decide
  rw [h3]
  unfold M32 at h2 ⊢
  omega
set_option hygiene false in
local macro_rules | `(tactic| walk_at "pyIter ref") => `(tactic| (k_here; (rename Fr _ _ _ _ => lF'); (rename News _ _ _ _ => lN'); (rename IsRange _ _ _ _ _ _ _ _ => rgX); (with_unfolding_all refine' kpr_n1 (y := Str.ofString "rest") [Str.ofString "bit"] (bitI kN) (by rfl) rgX (by decide) (by rfl) lF' lN' (by rfl) (fun k' t' a' ta' u' h' tk' own' hlo' hhi' hoff' F' N' => ?_) ?_); (all_goals (try clear lF' lN')); (all_goals (try simp only [List.nil_append, List.cons_append, List.append_nil] at N'))))
theorem sum_spec {prog : Program} {w : World} {p : Program} {loose : List Str} {mean : ExcName → Option Value} {mg mb : Str → Option Value}
  {dp un : Nat} {gd : Option (List Code)} {cn : Str} {cs : Scope} {a : Addr} {ccd : Value} {cl : List (Str × Addr)} {outer : List Env} {A₀ : Around} {base h₀ : Heap} {L : Addr} {m : Str → Option Value} {s : Shared} {Q E : Value → Shared → Prop}
  {D : Array UInt8} {u : Tok} {news : List (Addr × Obj)}
  (B : Below A₀ base outer h₀) (F : Fr h₀ L s.heap m) (X : (Kc w.params).In h₀) (N : News h₀ L s.heap (news)) (T : Top p loose mean mg mb h₀) (hk : cs.kind = .function)
  (hd : dp ≤ 400) (hu : un ≤ 400) (hsz : D.size ≤ 1000)
  (ret : ∀ h' tk' t', Fr h₀ L h' m → News h₀ L h' news → Q (.int ((crcFold (D.toList.map UInt8.toNat) 0 : Nat) : Int) t') { s with heap := h', toks := tk' }) :
  wpAny (model prog w) (ktrTop dp un gd cn cs L a ccd cl outer) (call (.ref 697) [.bytes D u]) Q E s := by
  refine wpAny_call ?_
  k_dflt (refine' code_def ?k1 ?k2 ?k3 ?k4 ?k5 ?kA ?kF ?kK ?k6 ?k7 ?k8 ?k9 ?kB ?_ ?c2 ?c3 ?c4 ?c5; (case kA => exact rfl); (case kF => exact rfl); (case kK => assumption); (case k1 => k_asm); (case k2 => k_asm); (case k3 => k_asm); (case k4 => k_asm); (case k5 => k_asm); (case k6 => k_is); (case k7 => k_is); (case k8 => ktr_room); (case k9 => first | exact BindsTo.of_eq rfl | exact binds_K (by k_in) rfl (by k_is) rfl rfl rfl | fail "k_enter: no rule for these arguments"); (case c5 => decide); (case kB => exact locs rfl); (case c2 => exact rfl); (case c3 => exact rfl); (case c4 => exact rfl); k_whole; intro g' L' h' FG' F' N' B' X' T'; (try dsimp only); (try k_lift B'); (try k_fold))
  dsimp only [b697, p697, s697] at *
  k_with "state" => (first | exact rfl | exact turn_law (by assumption) (by assumption) | fail "state")
  k_with "pyIter bytes" => (k_of "octet" => k_state (fun pre v => v = ((lawFold (pre.map Int.toNat) M32 : Nat) : Int)) "rest")
  k_steps
  rw [end_law (by assumption)]
  exact ret _ _ _ (by assumption) (by assumption)
end Mine
end
-- M25
section
open PySem PySem.W PySem.W.X PyProof.Rows PySem.Calls PySem.Spec
set_option Elab.async false
set_option maxRecDepth 100000
set_option maxHeartbeats 4000000
namespace Mine
local macro_rules | `(tactic| walk_at "none at all") => `(tactic| fail)
local macro_rules | `(tactic| walk_at "none at all") => `(tactic| fail)
local macro_rules | `(tactic| walk_at "none at all") => `(tactic| fail)
local macro_rules | `(tactic| walk_at "none at all") => `(tactic| fail)
theorem reset_M25 : True := by
  w_top off
  trivial
theorem warm25 : (PySem.Challenge.rw_ar0037_04 = PySem.Challenge.rw_ar0037_04) ∧ (∀ P, Kc P = Kc P) := by
  k_fill
  exact ⟨rfl, fun _ => rfl⟩

theorem due_eq {C K D : Array UInt8} : C ++ (be4 D.size).toArray ++ K ++ D ++ (be4 (crcFold (List.map UInt8.toNat (K ++ D).toList) 0)).toArray = C ++ chunkB (K, D) := by
  rw [Array.toList_append, List.map_append, crcFold_append]
  simp only [chunkB, Array.append_assoc]
noncomputable def lawW : { x : (Stmt × Stmt × Expr × Expr × Stmt × Pos × Expr × Expr × Pos) // lawFor.1.2.2.2.2.1 = .For x.2.2.2.2.2.2.1 x.2.2.2.2.2.2.2.1 [x.1, x.2.1, .For x.2.2.1 x.2.2.2.1 [x.2.2.2.2.1] [] x.2.2.2.2.2.1] [] x.2.2.2.2.2.2.2.2 } := ⟨(_, _, _, _, _, _, _, _, _), rfl⟩

theorem ints_inj {b c : Array UInt8} (h : KBw.bInts b = KBw.bInts c) : b = c := by
  have e : b.toList = c.toList := by
    unfold KBw.bInts at h
    have hi : ∀ x y : UInt8, ((x.toNat : Nat) : Int) = ((y.toNat : Nat) : Int) → x = y := fun x y e => UInt8.toNat_inj.mp (Int.ofNat_inj.mp e)
    exact (List.map_inj_right hi).mp h
  exact Array.toList_inj.mp e
theorem to_bytes4 {prog : Program} {w : World} {A : Around} {E : Value → Shared → Prop} {s : Shared} {n : Int} {k : Nat} {t u v : Tok} {Q : Value → Shared → Prop} (e : n = (k : Int)) (h1 : k < 4294967296) (h : ∀ t' z, Q (.bytes (be4 k).toArray t') { s with toks := z }) :
    wpAny (model prog w) A (call (.builtin "int.to_bytes") [.int n t, .int 4 u, .str (Str.ofString "big") v]) Q E s := by
  subst e
  refine KTBy.to_big (k := 4) (B := 4294967296) (by decide) (by decide) (by omega) (by omega) (fun b t' z hb _ => ?_)
  have eb : b = (be4 k).toArray := by
    refine ints_inj (hb.trans ?_)
    simp only [KTBy.little, List.reverse_cons, List.reverse_nil, List.nil_append, List.cons_append, KBw.bInts, be4, List.map_cons, List.map_nil]
    have hu : ∀ m : Nat, (((m % 256).toUInt8).toNat : Nat) = m % 256 := fun m => by
      show (UInt8.ofNat (m % 256)).toNat = m % 256
      rw [UInt8.toNat_ofNat']
      omega
    rw [hu, hu, hu, hu]
    refine List.cons_eq_cons.mpr ⟨by omega, List.cons_eq_cons.mpr ⟨by omega, List.cons_eq_cons.mpr ⟨by omega, List.cons_eq_cons.mpr ⟨by omega, rfl⟩⟩⟩⟩
  rw [eb]
  exact h t' z

local macro_rules | `(tactic| walk_at "eval Name") => `(tactic| (k_here; k_dflt (refine' nameX_L ?F ?hv ?_; (case F => k_asm); (case hv => assumption); k_whole)))

local macro_rules | `(tactic| walk_at "call ref") => `(tactic| (k_here; (with_reducible show wpAny _ _ (call (Value.ref 697) [Value.bytes _ _]) _ _ _); k_dflt (refine' sum_spec ?B ?F ?X ?N ?T ?K ?hd ?hu ?sz ?_; (case B => k_asm); (case F => k_asm); (case X => k_asm); (case N => k_asm); (case T => k_asm); (case K => exact rfl); (case hd => (first | omega | (dsimp only [ktrTop, Around.deeper]; omega))); (case hu => (first | omega | (dsimp only [ktrTop, Around.deeper]; omega))); (case sz => (simp only [Array.size_append]; omega)); k_whole); intro h' k' t' F' N'))
local macro_rules | `(tactic| walk_at "call builtin:int.to_bytes") => `(tactic| (k_here; k_dflt (first | (refine' to_bytes4 (k := Array.size _) rfl ?b ?_; (case b => omega); k_whole) | (refine' to_bytes4 (rfl : _ = ((crcFold _ _ : Nat) : Int)) ?b ?_; (case b => exact crcFold_lt _ octs_lt (by decide)); k_whole)); intro t' k'))
local macro_rules | `(tactic| walk_at "binaryOp Add bytes bytes") => `(tactic| (k_here; (with_reducible show wpAny _ _ (binaryOp Operator.Add (Value.bytes _ _) (Value.bytes _ _)) _ _ _); k_dflt (refine' KBy.add_bytes ?z ?_; (case z => first | omega | (simp only [Array.size_append, be4_len, List.size_toArray]; omega)); k_whole); intro t' k'))
local macro_rules | `(tactic| walk_at "call builtin:len") => `(tactic| (k_here; (with_reducible show wpAny _ _ (call (Value.builtin "len") [Value.bytes _ _]) _ _ _); k_dflt (refine' len_bytes' ?z ?_; (case z => omega); k_whole); intro t' k'))

theorem due_turn {prog : Program} {w : World} {p : Program} {loose : List Str} {mean : ExcName → Option Value} {mg mb : Str → Option Value}
  {dp un : Nat} {gd : Option (List Code)} {cl : List (Str × Addr)} {outer : List Env} {A₀ : Around} {base h₀ : Heap} {L : Addr} {m : Str → Option Value} {s : Shared} {Q E : Value → Shared → Prop} {Qf : Flow → Shared → Prop} {C K D : Array UInt8} {t u v : Tok} {rest : List (Addr × Obj)}
  (B : Below A₀ base outer h₀) (F : Fr h₀ L s.heap m) (X : (Kc w.params).In h₀) (N : News h₀ L s.heap (rest)) (T : Top p loose mean mg mb h₀) (hC : m (Str.ofString "due") = some (.bytes C t)) (hK : m (Str.ofString "kind") = some (.bytes K u)) (hD : m (Str.ofString "data") = some (.bytes D v)) (hd : dp ≤ 350) (hu : un ≤ 330) (z1 : C.size ≤ 90000) (z2 : K.size ≤ 100) (z3 : D.size ≤ 100)
  (ret : ∀ h' tk' t', Fr h₀ L h' (fun y => if y = Str.ofString "due" then some (.bytes (C ++ chunkB (K, D)) t') else m y) → News h₀ L h' rest → Qf .next { s with heap := h', toks := tk' }) :
  wpAny (model prog w) (ktrTop dp un gd (Str.ofString "law") s702.1 L 702 (.ref 701) cl outer) (exec lawW.1.2.2.2.2.1 (envX (Str.ofString "law") s702.1 L 702 (.ref 701) cl)) Qf E s := by
  dsimp only [lawW, lawFor, b702, s702] at *
  k_steps
  rename Fr _ _ _ _ => eF
  simp only [due_eq] at eF
  exact ret _ _ _ eF (by assumption)
end Mine
end
-- M26
section
open PySem PySem.W PySem.W.X PyProof.Rows PySem.Calls PySem.Spec
set_option Elab.async false
set_option maxRecDepth 100000
set_option maxHeartbeats 4000000
namespace Mine
theorem reset_M26 : True := by
  w_top off
  trivial
theorem warm26 : (PySem.Challenge.rw_ar0037_04 = PySem.Challenge.rw_ar0037_04) ∧ (∀ P, Kc P = Kc P) := by
  k_fill
  exact ⟨rfl, fun _ => rfl⟩

theorem PairN.chunk {a b : List (Addr × Obj)} {v : Value} {c : Chunk} (h : PairN a v c) (hs : ∀ p ∈ a, p ∈ b) : ChunkAt b v c := by
  obtain ⟨q, n, u1, u2, e, hm⟩ := h
  exact .inl ⟨q, n, u1, u2, e, hs _ hm⟩
theorem permP {l d t x dx c : Addr × Obj} {r : List (Addr × Obj)} : ∀ p ∈ x :: dx :: l :: t :: c :: r, p ∈ l :: d :: t :: x :: dx :: c :: r := fun p hp => by
  simp only [List.mem_cons] at hp ⊢
  rcases hp with h | h | h | h | h | h <;> simp [h]
theorem permQ {t x dx c : Addr × Obj} {r : List (Addr × Obj)} : ∀ p ∈ x :: dx :: c :: r, p ∈ x :: dx :: t :: c :: r := fun p hp => by
  simp only [List.mem_cons] at hp ⊢
  rcases hp with h | h | h | h <;> simp [h]

local macro_rules | `(tactic| walk_at "eval Name") => `(tactic| (k_here; k_dflt (refine' nameX_L ?F ?hv ?_; (case F => k_asm); (case hv => assumption); k_whole)))

local macro_rules | `(tactic| walk_at "binaryOp Add ref ref") => `(tactic| (k_here; k_dflt (refine' add_lists ?F ?N ?a ?b ?_ ?z; (case F => k_asm); (case N => k_asm); (case a => exact News.isList (by k_asm) (by k_mem)); (case b => exact News.isList (by k_asm) (by k_mem)); (case z => exact sz_ok (by assumption)); k_whole); intro h' F' N'))

theorem write_turn {prog : Program} {w : World} {p : Program} {loose : List Str} {mean : ExcName → Option Value} {mg mb : Str → Option Value}
  {dp un : Nat} {gd : Option (List Code)} {cl : List (Str × Addr)} {outer : List Env} {A₀ : Around} {base h₀ : Heap} {L : Addr} {m : Str → Option Value} {s : Shared} {Q E : Value → Shared → Prop} {Qf : Flow → Shared → Prop} {x dx c : Addr} {C : Array UInt8} {t tkO : Tok} {vals : List Value} {n : Nat} {ks : List Chunk} {rest : List (Addr × Obj)}
  (B : Below A₀ base outer h₀) (F : Fr h₀ L s.heap m) (X : (Kc w.params).In h₀) (N : News h₀ L s.heap ((x, instObj 126 dx) :: (dx, octObj w.params C t tkO) :: (c, lstObj vals n) :: rest)) (T' : Top p loose mean mg mb h₀) (hm : m (Str.ofString "stream") = some (.ref x)) (hc : m (Str.ofString "chunks") = some (.ref c)) (hd : dp ≤ 350) (hu : un ≤ 330)
  (hne : @Ne Nat x dx) (hoff : OwnOff ((c, lstObj vals n) :: rest) [x, dx]) (hz : C.size ≤ 10000) (hv : All2 (PairN rest) vals ks) (hk2 : ∀ c ∈ ks, c.1.size ≤ 100 ∧ c.2.size ≤ 100) (hn : ks.length ≤ 90) (hvl : vals.length ≤ 1000)
  (ret : ∀ h' tk' t', Fr h₀ L h' m → News h₀ L h' ((x, instObj 126 dx) :: (dx, octObj w.params (C ++ (sigB ++ chunksB (ks ++ [IEND]))) t' tkO) :: (c, lstObj vals n) :: rest) → Qf .next { s with heap := h', toks := tk' }) :
  wpAny (model prog w) (ktrTop dp un gd (Str.ofString "law") s702.1 L 702 (.ref 701) cl outer) (exec lawW.1.1 (envX (Str.ofString "law") s702.1 L 702 (.ref 701) cl)) Qf E s := by
  dsimp only [lawW, lawFor, b702, s702] at *
  k_steps
  rename_i T hT lT l2 h2 F2 N2 lb h3 F3 N3
  obtain ⟨tx, tdx, tc, tr⟩ := lT
  have lr := allLt_mem tr
  have big := fun p hp => Heap.lt_size (N2 p hp).1
  refine wcs_spec (n := 0) (ks := ks ++ [IEND]) (rest := (T, tupObj [.bytes IEND.1 s.toks] 0) :: (c, lstObj vals n) :: rest) B F3 X (news_sub N3 permP) T' rfl hne ?_ ?_ (by omega) (by omega) hz ?_ ?_ ?_ ?_
  · intro p hp q hq
    have hx := big _ (.tail _ (.tail _ (.head _)))
    have hdx := big _ (.tail _ (.tail _ (.tail _ (.head _))))
    simp only [List.mem_cons, List.not_mem_nil, or_false] at hp hq
    rcases hp with rfl | rfl | hp
    · rcases hq with rfl | rfl
      · exact Ne.symm (Nat.ne_of_lt hx)
      · exact Ne.symm (Nat.ne_of_lt hdx)
    · rcases hq with rfl | rfl
      · exact Ne.symm (Nat.ne_of_lt tx)
      · exact Ne.symm (Nat.ne_of_lt tdx)
    · exact hoff p (List.mem_cons.mpr hp) q (by simpa using hq)
  · intro p hp
    rcases List.mem_cons.mp hp with rfl | hp
    · exact Nat.ne_of_lt (big _ (.tail _ (.head _)))
    · exact Nat.ne_of_lt (big _ (.tail _ (.tail _ (.tail _ (.tail _ hp)))))
  · exact (hv.imp fun v c h => h.chunk fun p hp => .tail _ (.tail _ hp)).snoc (.inr ⟨rfl, _, 0, s.toks, rfl, .head _⟩)
  · intro c hc
    rcases List.mem_append.mp hc with hc | hc
    · exact hk2 c hc
    · rw [List.mem_singleton.mp hc]
      exact ⟨by decide, by decide⟩
  · rw [List.length_append]
    show ks.length + 1 ≤ 100
    omega
  · intro h4 tk4 t4 F4 N4
    rw [Array.append_assoc] at N4
    exact ret _ _ _ F4 (news_sub N4 permQ)
end Mine
end
-- M27
section
open PySem PySem.W PySem.W.X PyProof.Rows PySem.Calls PySem.Spec
set_option Elab.async false
set_option maxRecDepth 100000
set_option maxHeartbeats 4000000
namespace Mine
local macro_rules | `(tactic| walk_at "none at all") => `(tactic| fail)
local macro_rules | `(tactic| walk_at "none at all") => `(tactic| fail)
local macro_rules | `(tactic| walk_at "none at all") => `(tactic| fail)
theorem reset_M27 : True := by
  w_top off
  trivial
theorem warm27 : (PySem.Challenge.rw_ar0037_04 = PySem.Challenge.rw_ar0037_04) ∧ (∀ P, Kc P = Kc P) := by
  k_fill
  exact ⟨rfl, fun _ => rfl⟩

local macro_rules | `(tactic| walk_at "eval Name") => `(tactic| (k_here; k_dflt (refine' nameX_L ?F ?hv ?_; (case F => k_asm); (case hv => assumption); k_whole)))

local macro_rules | `(tactic| walk_at "call ref") => `(tactic| (k_here; (with_reducible show wpAny _ _ (call (Value.ref 697) [Value.bytes _ _]) _ _ _); k_dflt (refine' sum_spec ?B ?F ?X ?N ?T ?K ?hd ?hu ?sz ?_; (case B => k_asm); (case F => k_asm); (case X => k_asm); (case N => k_asm); (case T => k_asm); (case K => exact rfl); (case hd => (first | omega | (dsimp only [ktrTop, Around.deeper]; omega))); (case hu => (first | omega | (dsimp only [ktrTop, Around.deeper]; omega))); (case sz => (simp only [Array.size_append]; omega)); k_whole); intro h' k' t' F' N'))
local macro_rules | `(tactic| walk_at "call builtin:int.to_bytes") => `(tactic| (k_here; k_dflt (first | (refine' to_bytes4 (k := Array.size _) rfl ?b ?_; (case b => omega); k_whole) | (refine' to_bytes4 (rfl : _ = ((crcFold _ _ : Nat) : Int)) ?b ?_; (case b => exact crcFold_lt _ octs_lt (by decide)); k_whole)); intro t' k'))
local macro_rules | `(tactic| walk_at "binaryOp Add bytes bytes") => `(tactic| (k_here; (with_reducible show wpAny _ _ (binaryOp Operator.Add (Value.bytes _ _) (Value.bytes _ _)) _ _ _); k_dflt (refine' KBy.add_bytes ?z ?_; (case z => first | omega | (simp only [Array.size_append, be4_len, List.size_toArray]; omega)); k_whole); intro t' k'))
local macro_rules | `(tactic| walk_at "call builtin:len") => `(tactic| (k_here; (with_reducible show wpAny _ _ (call (Value.builtin "len") [Value.bytes _ _]) _ _ _); k_dflt (refine' len_bytes' ?z ?_; (case z => omega); k_whole); intro t' k'))

theorem due_sig {prog : Program} {w : World} {p : Program} {loose : List Str} {mean : ExcName → Option Value} {mg mb : Str → Option Value}
  {dp un : Nat} {gd : Option (List Code)} {cl : List (Str × Addr)} {outer : List Env} {A₀ : Around} {base h₀ : Heap} {L : Addr} {m : Str → Option Value} {s : Shared} {Q E : Value → Shared → Prop} {Qf : Flow → Shared → Prop} {C : Array UInt8} {t : Tok} {rest : List (Addr × Obj)}
  (B : Below A₀ base outer h₀) (F : Fr h₀ L s.heap m) (X : (Kc w.params).In h₀) (N : News h₀ L s.heap (rest)) (T : Top p loose mean mg mb h₀) (hC : m (Str.ofString "due") = some (.bytes C t)) (hd : dp ≤ 350) (hu : un ≤ 330) (z1 : C.size ≤ 90000)
  (ret : ∀ h' tk' t', Fr h₀ L h' (fun y => if y = Str.ofString "due" then some (.bytes (C ++ sigB) t') else m y) → News h₀ L h' rest → Qf .next { s with heap := h', toks := tk' }) :
  wpAny (model prog w) (ktrTop dp un gd (Str.ofString "law") s702.1 L 702 (.ref 701) cl outer) (exec lawW.1.2.1 (envX (Str.ofString "law") s702.1 L 702 (.ref 701) cl)) Qf E s := by
  dsimp only [lawW, lawFor, b702, s702] at *
  k_steps
  have es : (#[(Int.toNat 137).toUInt8, (Int.toNat 80).toUInt8, (Int.toNat 78).toUInt8, (Int.toNat 71).toUInt8, (Int.toNat 13).toUInt8, (Int.toNat 10).toUInt8, (Int.toNat 26).toUInt8, (Int.toNat 10).toUInt8] : Array UInt8) = sigB := by decide
  rw [es]
  refine KBy.add_bytes (by show C.size + 8 ≤ 16777216; omega) ?_
  intro t9 k9
  k_steps
  exact ret _ _ _ (by assumption) (news_sub (by assumption) fun _ h => .tail _ h)
end Mine
end
-- M28
section
open PySem PySem.W PySem.W.X PyProof.Rows PySem.Calls PySem.Spec
set_option Elab.async false
set_option maxRecDepth 100000
set_option maxHeartbeats 4000000
namespace Mine
theorem warm28 : (PySem.Challenge.rw_ar0037_04 = PySem.Challenge.rw_ar0037_04) ∧ (∀ P, Kc P = Kc P) := by
  k_fill
  exact ⟨rfl, fun _ => rfl⟩

theorem permR {a b d t : Addr × Obj} {l : List (Addr × Obj)} : ∀ p ∈ a :: b :: t :: l, p ∈ a :: b :: d :: t :: l := fun p hp => by
  simp only [List.mem_cons] at hp ⊢
  rcases hp with h | h | h | h <;> simp [h]
section
variable {prog : Program} {w : World} {A : Around} {s : Shared} {R : Result → Shared → Prop}
theorem codeH_forLoop2 {target : Expr} {it : Value} {body orelse : List Stmt} {env : Env} (I : Nat → Shared → Prop)
    (turn : ∀ n s, I n s → wpAny (model prog w) A (pyNext it) (fun r s₁ => match r with
      | none => wpH (model prog w) A (execs orelse env) (fun f s₃ => R (.ok f) s₃) (fun _ _ => False) s₁
      | some v => wpAny (model prog w) A (letOwnedTupleGo target it v) (fun _ s₁ => wpAny (model prog w) A (assign target env v) (fun _ s₂ => wpH (model prog w) A (execs body env) (fun f s₃ => match f with
          | .next | .cont => ∃ m, m < n ∧ I m s₃
          | .brk => R (.ok .next) s₃
          | .ret v => R (.ok (.ret v)) s₃) (fun _ _ => False) s₂) (fun _ _ => False) s₁) (fun _ _ => False) s₁) (fun _ _ => False) s)
    (n : Nat) (h : I n s) : codeH (model prog w) A (.forLoop target it body orelse env) R s := by
  refine codeH_loop rfl rfl I (fun n s hI => ?_) n h
  show wpH _ A ((forTurn target it body orelse env).onRaise (fun x => do noteFrame x env; theTreesLotGoes x)) _ _ s
  refine wpH_noFail ?_
  simp only [forTurn]
  refine wpH_bind (wpH_standAt (wpH_bind (wpH_onRaise (.of_any (wpAny_mono (turn n s hI) (fun r s₁ h₁ => ?_) fun _ _ h' => h'.elim)))))
  cases r with
  | none => exact wpH_pure (.inr ⟨rfl, codeH_block h₁⟩)
  | some v =>
    refine wpH_bind (.of_any (wpAny_mono h₁ (fun _ s₂ h₂ => ?_) fun _ _ h' => h'))
    refine wpH_bind (.of_any (wpAny_mono h₂ (fun _ s₂ h₂ => ?_) fun _ _ h' => h'))
    refine wpH_bind (wpH_mono h₂ (fun f s₃ h₃ => ?_) fun _ _ h' => h')
    cases f with
    | next => exact wpH_pure (.inl ⟨rfl, h₃⟩)
    | cont => exact wpH_pure (.inl ⟨rfl, h₃⟩)
    | brk => exact wpH_pure h₃
    | ret v => exact wpH_pure h₃
end

theorem due_for {prog : Program} {w : World} {p : Program} {loose : List Str} {mean : ExcName → Option Value} {mg mb : Str → Option Value}
  {dp un : Nat} {gd : Option (List Code)} {cl : List (Str × Addr)} {outer : List Env} {A₀ : Around} {base h₀ : Heap} {L : Addr} {m : Str → Option Value} {s : Shared} {Q E : Value → Shared → Prop} {Qf : Flow → Shared → Prop} {c : Addr} {C : Array UInt8} {t : Tok} {vals : List Value} {n : Nat} {ks : List Chunk} {rest : List (Addr × Obj)}
  (B : Below A₀ base outer h₀) (F : Fr h₀ L s.heap m) (X : (Kc w.params).In h₀) (N : News h₀ L s.heap (rest)) (T : Top p loose mean mg mb h₀) (hmc : (c, lstObj vals n) ∈ rest) (hv : All2 (PairN rest) vals ks) (hc : m (Str.ofString "chunks") = some (.ref c)) (hC : m (Str.ofString "due") = some (.bytes C t)) (hd : dp ≤ 350) (hu : un ≤ 330)
  (hk2 : ∀ c ∈ ks, c.1.size ≤ 100 ∧ c.2.size ≤ 100) (hn : ks.length ≤ 90) (z1 : C.size ≤ 60000)
  (ret : ∀ h' tk' m' t', m' (Str.ofString "due") = some (.bytes (C ++ chunksB (ks ++ [IEND])) t') → m' (Str.ofString "stream") = m (Str.ofString "stream") → m' (Str.ofString "files") = m (Str.ofString "files") → Fr h₀ L h' m' → News h₀ L h' rest → Qf .next { s with heap := h', toks := tk' }) :
  wpH (model prog w) (ktrTop dp un gd (Str.ofString "law") s702.1 L 702 (.ref 701) cl outer) (exec (.For lawW.1.2.2.1 lawW.1.2.2.2.1 [lawW.1.2.2.2.2.1] [] lawW.1.2.2.2.2.2.1) (envX (Str.ofString "law") s702.1 L 702 (.ref 701) cl)) Qf E s := by
  have hvl : vals.length ≤ 1000 := by rw [hv.length]; omega
  refine ForH (show wpAny _ _ (eval (.BinOp (.Name (Str.ofString "chunks") _) .Add (.List [.Tuple [.Constant (.bytes [73, 69, 78, 68]) _ _, .Constant (.bytes []) _ _] _ _] _) _) _) _ _ _ from wpAny_BinOp (nameX_L F hc ?_))
  refine List_ (spliced_more (Tuple_ (spliced_more (Constant_bytes (spliced_more (Constant_bytes (spliced_none ?_)))))))
  refine newTuple_N F N ?_
  intro h2 F2 N2
  refine spliced_none ?_
  refine newList_N F2 N2 ?_
  intro h3 F3 N3
  refine add_lists (vs := vals) F3 N3 (News.isList N3 (.tail _ (.tail _ hmc))) (News.isList N3 (.head _)) ?_ (sz_ok hvl)
  intro h4 F4 N4
  refine wpAny_pyIter_list (News.isList N4 (.head _)) ?_
  have NP := News.push F4 N4 ({ cls := .type "list_iterator", data := .fields #[.ref h3.objs.size, .int 0 0] } : Obj)
  have big := fun p hp => Heap.lt_size (N4 p hp).1
  have hall : All2 (PairN ((s.heap.objs.size, tupObj [.bytes IEND.1 s.toks, .bytes IEND.2 (s.toks + 1)] 0) :: rest)) (vals ++ [.ref s.heap.objs.size]) (ks ++ [IEND]) := (hv.imp fun v c h => h.sub fun p hp => .tail _ hp).snoc ⟨_, 0, _, _, rfl, .head _⟩
  have hks2 : ∀ c ∈ ks ++ [IEND], c.1.size ≤ 100 ∧ c.2.size ≤ 100 := fun c hc => by
    rcases List.mem_append.mp hc with hc | hc
    · exact hk2 c hc
    · rw [List.mem_singleton.mp hc]
      exact ⟨by decide, by decide⟩
  have lk : (ks ++ [IEND]).length = ks.length + 1 := by simp
  refine codeH_forLoop2 (fun k s' => ∃ i h tk m' t' oit, k + i = ks.length + 2 ∧ i ≤ ks.length + 1 ∧ s' = { s with heap := h, toks := tk } ∧ m' (Str.ofString "due") = some (.bytes (C ++ chunksB ((ks ++ [IEND]).take i)) t') ∧ m' (Str.ofString "stream") = m (Str.ofString "stream") ∧ m' (Str.ofString "files") = m (Str.ofString "files") ∧ Fr h₀ L h m' ∧ News h₀ L h ((h4.objs.size, oit) :: (h3.objs.size, lstObj (vals ++ [.ref s.heap.objs.size]) 0) :: (s.heap.objs.size, tupObj [.bytes IEND.1 s.toks, .bytes IEND.2 (s.toks + 1)] 0) :: rest) ∧ IterO oit h3.objs.size i) ?_ (ks.length + 2) ⟨0, _, _, m, t, { cls := .type "list_iterator", data := .fields #[.ref h3.objs.size, .int 0 0] }, rfl, Nat.zero_le _, rfl, ?_, rfl, rfl, F4.push _, ?_, ⟨rfl, rfl⟩⟩
  · intro k s' hI
    obtain ⟨i, h, tk, m', t', oit, hk, hi, rfl, e1, e2, e3, F', N', hoit⟩ := hI
    have nit := N' _ (.head _)
    have nl := N' _ (.tail _ (.head _))
    have IL : h.IsList h3.objs.size (vals ++ [Value.ref s.heap.objs.size]).toArray := ⟨_, nl.1, rfl, _, rfl⟩
    have hne : ∀ p ∈ (h3.objs.size, lstObj (vals ++ [.ref s.heap.objs.size]) 0) :: (s.heap.objs.size, tupObj [.bytes IEND.1 s.toks, .bytes IEND.2 (s.toks + 1)] 0) :: rest, @Ne Nat p.1 h4.objs.size := fun p hp => by
      rcases List.mem_cons.mp hp with rfl | hp
      · exact Nat.ne_of_lt (big _ (.head _))
      · exact Nat.ne_of_lt (big p (.tail _ (.tail _ hp)))
    by_cases hlt : i < ks.length + 1
    · obtain ⟨v, hv1⟩ : ∃ v, (vals ++ [Value.ref s.heap.objs.size])[i]? = some v := ⟨_, List.getElem?_eq_getElem (by rw [hall.length, lk]; exact hlt)⟩
      obtain ⟨c', ec, a, n', u1, u2, rfl, ha⟩ := hall.get hv1
      have hc2 := hks2 c' (List.mem_of_getElem? ec)
      refine wpAny_pyNext_list_item (hoit.is nit.1) IL (x := .ref a) (by simpa using hv1) ?_
      intro h5 hit5 sb5
      obtain ⟨oit5, ei5, hoit5⟩ := iterO_of hit5
      have F5 : Fr h₀ L h5 m' := F'.change sb5 nit.2.1 nit.2.2
      have N5 : News h₀ L h5 ((h4.objs.size, oit5) :: (h3.objs.size, lstObj (vals ++ [.ref s.heap.objs.size]) 0) :: (s.heap.objs.size, tupObj [.bytes IEND.1 s.toks, .bytes IEND.2 (s.toks + 1)] 0) :: rest) := fun p hp => by
        rcases List.mem_cons.mp hp with rfl | hp
        · exact ⟨ei5, nit.2⟩
        · exact ⟨(sb5.2 _ (hne p hp)).trans (N' p (.tail _ hp)).1, (N' p (.tail _ hp)).2⟩
      refine (show wpAny _ _ (letOwnedTupleGo (.Tuple _ _ _) _ _) _ _ _ from wpAny_letOwnedTupleGo_listiter hit5 ?_)
      refine (show wpAny _ _ (assign (.Tuple [.Name (Str.ofString "kind") _, .Name (Str.ofString "data") _] _ _) _ _) _ _ _ from unpackN_ F5 N5 (News.isTup N5 (.tail _ (.tail _ ha))) rfl rfl rfl ?_)
      intro h6 F6 N6
      refine wpAny_assignInOrder_more (wpAny_assign_Name (storeX_L F6 N6 ?_))
      intro h7 F7 N7
      refine wpAny_assignInOrder_more (wpAny_assign_Name (storeX_L F7 N7 ?_))
      intro h8 F8 N8
      refine wpAny_assignInOrder_none ?_
      have zC : (C ++ chunksB ((ks ++ [IEND]).take i)).size ≤ 90000 := by
        have := chunksB_le ((ks ++ [IEND]).take i) fun c hc => hks2 c (List.mem_of_mem_take hc)
        rw [List.length_take] at this
        rw [Array.size_append]
        have h0 : min i (ks ++ [IEND]).length ≤ i := Nat.min_le_left _ _
        omega
      refine execsH_next (due_turn (Q := Q) (K := c'.1) (D := c'.2) B F8 X N8 T (by show (if Str.ofString "due" = Str.ofString "data" then _ else if Str.ofString "due" = Str.ofString "kind" then _ else _) = _; rw [if_neg (by decide), if_neg (by decide)]; exact e1) rfl rfl hd hu zC hc2.1 hc2.2 ?_)
      intro h9 tk9 t9 F9 N9
      dsimp only
      refine execsH_nil ?_
      refine ⟨ks.length + 1 - i, by omega, i + 1, h9, tk9, _, t9, oit5, by omega, by omega, rfl, ?_, ?_, ?_, F9, N9, hoit5⟩
      · show (if Str.ofString "due" = Str.ofString "due" then _ else _) = _
        rw [if_pos rfl, take_snoc ec, chunksB_snoc, Array.append_assoc]
      · show (if Str.ofString "stream" = Str.ofString "due" then _ else if Str.ofString "stream" = Str.ofString "data" then _ else if Str.ofString "stream" = Str.ofString "kind" then _ else _) = _
        rw [if_neg (by decide), if_neg (by decide), if_neg (by decide)]
        exact e2
      · show (if Str.ofString "files" = Str.ofString "due" then _ else if Str.ofString "files" = Str.ofString "data" then _ else if Str.ofString "files" = Str.ofString "kind" then _ else _) = _
        rw [if_neg (by decide), if_neg (by decide), if_neg (by decide)]
        exact e3
    · have hi2 : i = ks.length + 1 := by omega
      refine wpAny_pyNext_list_end rfl (hoit.is nit.1) IL (by simp [hv.length]; omega) ?_
      intro h5 eb
      refine execsH_nil ⟨_, rfl, ?_⟩
      have htk : (ks ++ [IEND]).take i = ks ++ [IEND] := by rw [hi2, ← lk]; exact List.take_length
      rw [htk] at e1
      refine ret h5 tk m' t' e1 e2 e3 ?_ fun p hp => ?_
      · obtain ⟨oL, a1, a2, hL, a3⟩ := F'.ns
        exact ⟨⟨oL, a1, a2, eb _ _ (Ne.symm nit.2.1) hL, a3⟩, fun b o e => eb b o (fun q => by rw [q] at e; rw [nit.2.2] at e; cases e) (F'.keep b o e), F'.above⟩
      · have hp2 : p ∈ (h3.objs.size, lstObj (vals ++ [.ref s.heap.objs.size]) 0) :: (s.heap.objs.size, tupObj [.bytes IEND.1 s.toks, .bytes IEND.2 (s.toks + 1)] 0) :: rest := .tail _ (.tail _ hp)
        exact ⟨eb _ _ (hne p hp2) (N' p (.tail _ hp2)).1, (N' p (.tail _ hp2)).2⟩
  · rw [List.take_zero]
    show m _ = some (.bytes (C ++ #[]) t)
    rw [Array.append_empty]
    exact hC
  · exact news_sub NP permR
end Mine
end
-- M29
section
open PySem PySem.W PySem.W.X PyProof.Rows PySem.Calls PySem.Spec
set_option Elab.async false
set_option maxRecDepth 100000
set_option maxHeartbeats 4000000
namespace Mine
theorem warm29 : (PySem.Challenge.rw_ar0037_04 = PySem.Challenge.rw_ar0037_04) ∧ (∀ P, Kc P = Kc P) := by
  k_fill
  exact ⟨rfl, fun _ => rfl⟩

theorem chunksB_le2 (ks : List Chunk) (hc : ∀ c ∈ ks, c.1.size = 4 ∧ c.2.size ≤ 100) : (chunksB ks).size ≤ 112 * ks.length := by
  induction ks with
  | nil => simp [chunksB]
  | cons c ks ih =>
    have h1 := ih fun c hm => hc c (.tail _ hm)
    have h2 := hc c (.head _)
    rw [chunksB_cons, Array.size_append, chunkB_size, List.length_cons]
    omega
noncomputable def GoodF (ks : List Chunk) : Prop := (∀ c ∈ ks, GoodC c ∧ c.1.toList ≠ [73, 69, 78, 68]) ∧ ks.length ≤ 6
theorem file_le {ks : List Chunk} (h : GoodF ks) : (sigB ++ chunksB (ks ++ [IEND])).size ≤ 792 := by
  have h1 := chunksB_le2 (ks ++ [IEND]) fun c hc => by
    rcases List.mem_append.mp hc with hc | hc
    · exact ⟨(h.1 c hc).1.1, (h.1 c hc).1.2.1⟩
    · rw [List.mem_singleton.mp hc]
      exact ⟨rfl, by decide⟩
  have h2 : (ks ++ [IEND]).length = ks.length + 1 := by simp
  have h3 : sigB.size = 8 := rfl
  have h4 := h.2
  rw [Array.size_append]
  omega
theorem filesB_le {fss : List (List Chunk)} (h : ∀ ks ∈ fss, GoodF ks) : (filesB fss).size ≤ 792 * fss.length := by
  induction fss with
  | nil => simp [filesB]
  | cons k r ih =>
    have h1 := ih fun c hm => h c (.tail _ hm)
    have h2 := file_le (h k (.head _))
    rw [filesB, ← Array.append_assoc, Array.size_append, List.length_cons]
    omega
theorem filesB_snoc (a : List (List Chunk)) (k : List Chunk) : filesB (a ++ [k]) = filesB a ++ (sigB ++ chunksB (k ++ [IEND])) := by
  induction a with
  | nil => simp [filesB]
  | cons b r ih => simp only [List.cons_append, filesB, ih, Array.append_assoc]

theorem permS {a x dx : Addr × Obj} {l : List (Addr × Obj)} : ∀ p ∈ x :: dx :: a :: l, p ∈ a :: x :: dx :: l := fun p hp => by
  simp only [List.mem_cons] at hp ⊢
  rcases hp with h | h | h | h <;> simp [h]
theorem permU {a c x dx : Addr × Obj} {l : List (Addr × Obj)} : ∀ p ∈ x :: dx :: a :: l, p ∈ x :: dx :: c :: a :: l := fun p hp => by
  simp only [List.mem_cons] at hp ⊢
  rcases hp with h | h | h | h <;> simp [h]
theorem write_for {prog : Program} {w : World} {p : Program} {loose : List Str} {mean : ExcName → Option Value} {mg mb : Str → Option Value}
  {dp un : Nat} {gd : Option (List Code)} {cl : List (Str × Addr)} {outer : List Env} {A₀ : Around} {base h₀ : Heap} {L : Addr} {m : Str → Option Value} {s : Shared} {Q E : Value → Shared → Prop} {Qf : Flow → Shared → Prop} {x dx fl : Addr} {t tkO td : Tok} {nf : Nat} {fvals : List Value} {fss : List (List Chunk)} {rest : List (Addr × Obj)}
  (B : Below A₀ base outer h₀) (F : Fr h₀ L s.heap m) (X : (Kc w.params).In h₀) (N : News h₀ L s.heap ((x, instObj 126 dx) :: (dx, octObj w.params #[] t tkO) :: rest)) (T : Top p loose mean mg mb h₀) (hm : m (Str.ofString "stream") = some (.ref x)) (hf : m (Str.ofString "files") = some (.ref fl)) (hdue : m (Str.ofString "due") = some (.bytes #[] td)) (nd : (x :: dx :: rest.map (·.1)).Nodup) (hd : dp ≤ 350) (hu : un ≤ 330)
  (hmf : (fl, lstObj fvals nf) ∈ rest) (hv : All2 (FileAt rest) fvals fss) (hks : ∀ ks ∈ fss, GoodF ks) (hl : fss.length ≤ 7)
  (ret : ∀ h' tk' m' t' td', m' (Str.ofString "due") = some (.bytes (filesB fss) td') → m' (Str.ofString "stream") = some (.ref x) → m' (Str.ofString "files") = some (.ref fl) → Fr h₀ L h' m' → News h₀ L h' ((x, instObj 126 dx) :: (dx, octObj w.params (filesB fss) t' tkO) :: rest) → Qf .next { s with heap := h', toks := tk' }) :
  wpH (model prog w) (ktrTop dp un gd (Str.ofString "law") s702.1 L 702 (.ref 701) cl outer) (exec lawFor.1.2.2.2.2.1 (envX (Str.ofString "law") s702.1 L 702 (.ref 701) cl)) Qf E s := by
  rw [lawW.2]
  have hfl := N _ (.tail _ (.tail _ hmf))
  have IL : s.heap.IsList fl fvals.toArray := ⟨_, hfl.1, rfl, _, rfl⟩
  refine ForH (show wpAny _ _ (eval (.Name (Str.ofString "files") _) _) _ _ _ from nameX_L F hf ?_)
  refine wpAny_pyIter_list IL ?_
  have hit : s.heap.objs.size ∉ (x :: dx :: rest.map (·.1)) := fun hm => by
    have hm2 : s.heap.objs.size ∈ ((x, instObj 126 dx) :: (dx, octObj w.params #[] t tkO) :: rest).map (·.1) := hm
    obtain ⟨p, hp, e⟩ := List.mem_map.mp hm2
    have h9 := Heap.lt_size (N p hp).1
    rw [e] at h9
    exact Nat.lt_irrefl _ h9
  have hne : ∀ q : Addr, q ∈ (x :: dx :: rest.map (·.1)) → q ≠ s.heap.objs.size := fun q hq e => hit (e ▸ hq)
  have NP := News.push F N ({ cls := .type "list_iterator", data := .fields #[.ref fl, .int 0 0] } : Obj)
  simp only [List.nodup_cons, List.mem_cons, not_or] at nd
  refine codeH_forLoop (fun k s' => ∃ i h tk gt m' td' oit, k + i = fss.length + 1 ∧ i ≤ fss.length ∧ s' = { s with heap := h, toks := tk } ∧ m' (Str.ofString "due") = some (.bytes (filesB (fss.take i)) td') ∧ m' (Str.ofString "stream") = some (.ref x) ∧ m' (Str.ofString "files") = some (.ref fl) ∧ Fr h₀ L h m' ∧ News h₀ L h ((x, instObj 126 dx) :: (dx, octObj w.params (filesB (fss.take i)) gt tkO) :: (s.heap.objs.size, oit) :: rest) ∧ IterO oit fl i) ?_ (fss.length + 1) ⟨0, _, _, t, m, td, { cls := .type "list_iterator", data := .fields #[.ref fl, .int 0 0] }, rfl, Nat.zero_le _, rfl, hdue, hm, hf, F.push _, news_sub NP permS, ⟨rfl, rfl⟩⟩
  intro k s' hI
  obtain ⟨i, h, tk, gt, m', td', oit, hk, hi, rfl, e1, e2, e3, F1, N1, hoit⟩ := hI
  have hit1 := N1 _ (.tail _ (.tail _ (.head _)))
  have hfl1 := N1 _ (.tail _ (.tail _ (.tail _ hmf)))
  have IL1 : h.IsList fl fvals.toArray := ⟨_, hfl1.1, rfl, _, rfl⟩
  have zC : (filesB (fss.take i)).size ≤ 6000 := by
    have h5 := filesB_le (fss := fss.take i) fun ks hm => hks ks (List.mem_of_mem_take hm)
    rw [List.length_take] at h5
    have h0 : min i fss.length ≤ fss.length := Nat.min_le_right _ _
    omega
  by_cases hlt : i < fss.length
  · obtain ⟨ks, hks1⟩ : ∃ ks, fss[i]? = some ks := ⟨fss[i], by simp [hlt]⟩
    obtain ⟨v, hv1⟩ : ∃ v, fvals[i]? = some v := ⟨fvals[i]'(by rw [hv.length]; exact hlt), by simp [hv.length, hlt]⟩
    obtain ⟨ks', e9, c, vals, n, rfl, hc, hpairs⟩ := hv.get hv1
    rw [hks1] at e9
    obtain rfl := Option.some.inj e9
    have hks2 := hks ks (List.mem_of_getElem? hks1)
    have hsz : ∀ c ∈ ks, c.1.size ≤ 100 ∧ c.2.size ≤ 100 := fun c hc => by
      have := (hks2.1 c hc).1
      have h4 := this.1
      exact ⟨by omega, this.2.1⟩
    refine wpAny_pyNext_list_item (hoit.is hit1.1) IL1 (x := .ref c) (by simpa using hv1) ?_
    intro h2 hit2 sb2
    obtain ⟨oit2, ei2, hoit2⟩ := iterO_of hit2
    have F2 : Fr h₀ L h2 m' := F1.change sb2 hit1.2.1 hit1.2.2
    have N2 : News h₀ L h2 ((x, instObj 126 dx) :: (dx, octObj w.params (filesB (fss.take i)) gt tkO) :: (c, lstObj vals n) :: (s.heap.objs.size, oit2) :: rest) := fun p hp => by
      simp only [List.mem_cons] at hp
      rcases hp with rfl | rfl | rfl | rfl | hp
      · exact ⟨(sb2.2 _ (hne _ (.head _))).trans (N1 _ (.head _)).1, (N1 _ (.head _)).2⟩
      · exact ⟨(sb2.2 _ (hne _ (.tail _ (.head _)))).trans (N1 _ (.tail _ (.head _))).1, (N1 _ (.tail _ (.head _))).2⟩
      · exact ⟨(sb2.2 _ (hne _ (.tail _ (.tail _ (List.mem_map_of_mem hc))))).trans (N1 _ (.tail _ (.tail _ (.tail _ hc)))).1, (N1 _ (.tail _ (.tail _ (.tail _ hc)))).2⟩
      · exact ⟨ei2, hit1.2⟩
      · exact ⟨(sb2.2 _ (hne _ (.tail _ (.tail _ (List.mem_map_of_mem hp))))).trans (N1 _ (.tail _ (.tail _ (.tail _ hp)))).1, (N1 _ (.tail _ (.tail _ (.tail _ hp)))).2⟩
    refine (show wpAny _ _ (assign (.Name (Str.ofString "chunks") _) _ _) _ _ _ from wpAny_assign_Name (storeX_L F2 N2 ?_))
    intro h3 F3 N3
    have hoff : OwnOff ((c, lstObj vals n) :: (s.heap.objs.size, oit2) :: rest) [x, dx] := by
      have hcm := List.mem_map_of_mem (f := (·.1)) hc
      refine offs ?_ ?_
      · simp only [List.map_cons, List.mem_cons, not_or]
        exact ⟨fun e => nd.1.2 (e ▸ hcm), hne _ (.head _), nd.1.2⟩
      · simp only [List.map_cons, List.mem_cons, not_or]
        exact ⟨fun e => nd.2.1 (e ▸ hcm), hne _ (.tail _ (.head _)), nd.2.1⟩
    have hvl : vals.length ≤ 1000 := by
      have := hks2.2
      rw [hpairs.length]; omega
    have hk90 : ks.length ≤ 90 := Nat.le_trans hks2.2 (by decide)
    refine execsH_next (write_turn (Q := Q) B F3 X N3 T (by show (if Str.ofString "stream" = Str.ofString "chunks" then _ else _) = _; rw [if_neg (by decide)]; exact e2) rfl hd hu nd.1.1 hoff (by omega) (hpairs.imp fun v c h => h.sub fun p hp => .tail _ hp) hsz hk90 hvl ?_)
    intro h4 tk4 t4 F4 N4
    dsimp only
    refine execsH_next (due_sig (Q := Q) (C := filesB (fss.take i)) (t := td') B F4 X N4 T (by show (if Str.ofString "due" = Str.ofString "chunks" then _ else _) = _; rw [if_neg (by decide)]; exact e1) hd hu (by omega) ?_)
    intro h5 tk5 t5 F5 N5
    dsimp only
    refine execsH_cons (due_for (Q := Q) (C := filesB (fss.take i) ++ sigB) (t := t5) (c := c) (ks := ks) B F5 X N5 T (.tail _ (.tail _ (.head _))) (hpairs.imp fun v c h => h.sub fun p hp => .tail _ (.tail _ (.tail _ (.tail _ hp)))) rfl rfl hd hu hsz hk90 (by rw [Array.size_append]; have h8 : sigB.size = 8 := rfl; omega) ?_)
    intro h6 tk6 m6 t6 a1 a2 a3 F6 N6
    dsimp only
    refine execsH_nil ?_
    have eT : fss.take (i + 1) = fss.take i ++ [ks] := take_snoc hks1
    refine ⟨fss.length - i, by omega, i + 1, h6, tk6, t4, m6, t6, oit2, by omega, by omega, rfl, ?_, ?_, ?_, F6, ?_, hoit2⟩
    · rw [a1, eT, filesB_snoc, Array.append_assoc]
    · rw [a2]
      show (if Str.ofString "stream" = Str.ofString "due" then _ else if Str.ofString "stream" = Str.ofString "chunks" then _ else _) = _
      rw [if_neg (by decide), if_neg (by decide)]
      exact e2
    · rw [a3]
      show (if Str.ofString "files" = Str.ofString "due" then _ else if Str.ofString "files" = Str.ofString "chunks" then _ else _) = _
      rw [if_neg (by decide), if_neg (by decide)]
      exact e3
    · rw [eT, filesB_snoc]
      exact news_sub N6 permU
  · have hi2 : i = fss.length := by omega
    refine wpAny_pyNext_list_end rfl (hoit.is hit1.1) IL1 (by simp [hv.length]; omega) ?_
    intro h2 eb
    refine execsH_nil ⟨_, rfl, ?_⟩
    have htk : fss.take i = fss := by rw [hi2]; exact List.take_length
    rw [htk] at e1 N1
    refine ret h2 tk m' gt td' e1 e2 e3 ?_ ?_
    · obtain ⟨oL, a1, a2, hL, a3⟩ := F1.ns
      exact ⟨⟨oL, a1, a2, eb _ _ (Ne.symm hit1.2.1) hL, a3⟩, fun b o e => eb b o (fun q => by rw [q] at e; rw [hit1.2.2] at e; cases e) (F1.keep b o e), F1.above⟩
    · intro p hp
      simp only [List.mem_cons] at hp
      rcases hp with rfl | rfl | hp
      · exact ⟨eb _ _ (hne _ (.head _)) (N1 _ (.head _)).1, (N1 _ (.head _)).2⟩
      · exact ⟨eb _ _ (hne _ (.tail _ (.head _))) (N1 _ (.tail _ (.head _))).1, (N1 _ (.tail _ (.head _))).2⟩
      · exact ⟨eb _ _ (hne _ (.tail _ (.tail _ (List.mem_map_of_mem hp)))) (N1 _ (.tail _ (.tail _ (.tail _ hp)))).1, (N1 _ (.tail _ (.tail _ (.tail _ hp)))).2⟩
end Mine
end
-- M30
section
open PySem PySem.W PySem.W.X PyProof.Rows PySem.Calls PySem.Spec
set_option Elab.async false
set_option maxRecDepth 100000
set_option maxHeartbeats 4000000
namespace Mine
theorem reset_M30 : True := by
  w_top off
  trivial
theorem warm30 : (PySem.Challenge.rw_ar0037_04 = PySem.Challenge.rw_ar0037_04) ∧ (∀ P, Kc P = Kc P) := by
  k_fill
  exact ⟨rfl, fun _ => rfl⟩

local macro_rules | `(tactic| walk_at "eval Name") => `(tactic| (k_here; k_dflt (refine' nameX_L ?F ?hv ?_; (case F => k_asm); (case hv => assumption); k_whole)))

local macro_rules | `(tactic| walk_at "compareOp NotEq bytes bytes") => `(tactic| (k_here; refine neb_no rfl ?_))

theorem s0_spec {prog : Program} {w : World} {p : Program} {loose : List Str} {mean : ExcName → Option Value} {mg mb : Str → Option Value}
  {dp un : Nat} {gd : Option (List Code)} {cl : List (Str × Addr)} {outer : List Env} {A₀ : Around} {base h₀ : Heap} {L : Addr} {m : Str → Option Value} {s : Shared} {Q E : Value → Shared → Prop} {Qf : Flow → Shared → Prop} {rest : List (Addr × Obj)}
  (B : Below A₀ base outer h₀) (F : Fr h₀ L s.heap m) (X : (Kc w.params).In h₀) (N : News h₀ L s.heap (rest)) (T : Top p loose mean mg mb h₀) (hd : dp ≤ 350) (hu : un ≤ 330)
  (ret : ∀ h' tk' fl c, Fr h₀ L h' (fun y => if y = Str.ofString "files" then some (.ref fl) else m y) → News h₀ L h' ((fl, lstObj [.ref c] 0) :: (c, lstObj [] 0) :: rest) → (∀ p ∈ rest, p.1 < c) → c < fl → (∀ p ∈ rest, p.1 < fl) → Qf .next { s with heap := h', toks := tk' }) :
  wpAny (model prog w) (ktrTop dp un gd (Str.ofString "law") s702.1 L 702 (.ref 701) cl outer) (exec lawFor.1.1 (envX (Str.ofString "law") s702.1 L 702 (.ref 701) cl)) Qf E s := by
  dsimp only [lawFor, b702, s702] at *
  k_steps
  rename_i c h2 lc fl h1 lfl h0 F0 N0
  exact ret _ _ fl c F0 N0 lc lfl.1 (allLt_mem lfl.2)
theorem s2_spec {prog : Program} {w : World} {p : Program} {loose : List Str} {mean : ExcName → Option Value} {mg mb : Str → Option Value}
  {dp un : Nat} {gd : Option (List Code)} {cl : List (Str × Addr)} {outer : List Env} {A₀ : Around} {base h₀ : Heap} {L : Addr} {m : Str → Option Value} {s : Shared} {Q E : Value → Shared → Prop} {Qf : Flow → Shared → Prop} {rest : List (Addr × Obj)}
  (B : Below A₀ base outer h₀) (F : Fr h₀ L s.heap m) (X : (Kc w.params).In h₀) (N : News h₀ L s.heap (rest)) (T : Top p loose mean mg mb h₀) (hd : dp ≤ 350) (hu : un ≤ 330)
  (ret : ∀ h' tk' x dx t tkO, Fr h₀ L h' (fun y => if y = Str.ofString "stream" then some (.ref x) else m y) → News h₀ L h' ((x, instObj 126 dx) :: (dx, octObj w.params #[] t tkO) :: rest) → (∀ p ∈ rest, p.1 < dx) → dx < x → Qf .next { s with heap := h', toks := tk' }) :
  wpAny (model prog w) (ktrTop dp un gd (Str.ofString "law") s702.1 L 702 (.ref 701) cl outer) (exec lawFor.1.2.2.1 (envX (Str.ofString "law") s702.1 L 702 (.ref 701) cl)) Qf E s := by
  dsimp only [lawFor, b702, s702] at *
  k_steps
  show wpAny _ _ (call (.ref 126) []) _ _ _
  refine new_stream B F X N T rfl (by omega) (by omega) ?_
  intro x dx h1 tk1 t1 tkO1 F1 N1 l1 l2
  k_steps
  exact ret _ _ _ _ _ _ (by assumption) (by assumption) l1 l2
theorem s3_spec {prog : Program} {w : World} {p : Program} {loose : List Str} {mean : ExcName → Option Value} {mg mb : Str → Option Value}
  {dp un : Nat} {gd : Option (List Code)} {cl : List (Str × Addr)} {outer : List Env} {A₀ : Around} {base h₀ : Heap} {L : Addr} {m : Str → Option Value} {s : Shared} {Q E : Value → Shared → Prop} {Qf : Flow → Shared → Prop} {rest : List (Addr × Obj)}
  (B : Below A₀ base outer h₀) (F : Fr h₀ L s.heap m) (X : (Kc w.params).In h₀) (N : News h₀ L s.heap (rest)) (T : Top p loose mean mg mb h₀) (hd : dp ≤ 350) (hu : un ≤ 330)
  (ret : ∀ h' tk' t, Fr h₀ L h' (fun y => if y = Str.ofString "due" then some (.bytes #[] t) else m y) → News h₀ L h' rest → Qf .next { s with heap := h', toks := tk' }) :
  wpAny (model prog w) (ktrTop dp un gd (Str.ofString "law") s702.1 L 702 (.ref 701) cl outer) (exec lawFor.1.2.2.2.1 (envX (Str.ofString "law") s702.1 L 702 (.ref 701) cl)) Qf E s := by
  dsimp only [lawFor, b702, s702] at *
  k_steps
  exact ret _ _ _ (by assumption) (by assumption)
theorem s5_spec {prog : Program} {w : World} {p : Program} {loose : List Str} {mean : ExcName → Option Value} {mg mb : Str → Option Value}
  {dp un : Nat} {gd : Option (List Code)} {cl : List (Str × Addr)} {outer : List Env} {A₀ : Around} {base h₀ : Heap} {L : Addr} {m : Str → Option Value} {s : Shared} {Q E : Value → Shared → Prop} {Qf : Flow → Shared → Prop} {x dx : Addr} {t tkO td : Tok} {C : Array UInt8} {rest : List (Addr × Obj)}
  (B : Below A₀ base outer h₀) (F : Fr h₀ L s.heap m) (X : (Kc w.params).In h₀) (N : News h₀ L s.heap ((x, instObj 126 dx) :: (dx, octObj w.params C t tkO) :: rest)) (T : Top p loose mean mg mb h₀) (hm : m (Str.ofString "stream") = some (.ref x)) (hC : m (Str.ofString "due") = some (.bytes C td)) (hne : @Ne Nat x dx) (hoff : OwnOff rest [x, dx]) (hd : dp ≤ 350) (hu : un ≤ 330)
  (ret : ∀ h' tk', Fr h₀ L h' m → News h₀ L h' ((x, instObj 126 dx) :: (dx, octObj w.params C t tkO) :: rest) → Qf .next { s with heap := h', toks := tk' }) :
  wpAny (model prog w) (ktrTop dp un gd (Str.ofString "law") s702.1 L 702 (.ref 701) cl outer) (exec lawFor.1.2.2.2.2.2.1 (envX (Str.ofString "law") s702.1 L 702 (.ref 701) cl)) Qf E s := by
  dsimp only [lawFor, b702, s702] at *
  k_steps
  show wpAny _ _ (call (.ref 104) [.ref x]) _ _ _
  refine getvalue_spec B F X N T rfl hne hoff (by omega) (by omega) ?_
  intro h1 tk1 F1 N1
  k_steps
  exact ret _ _ (by assumption) (by assumption)
end Mine
end
-- M31
section
open PySem PySem.W PySem.W.X PyProof.Rows PySem.Calls PySem.Spec
set_option Elab.async false
set_option maxRecDepth 100000
set_option maxHeartbeats 4000000
namespace Mine
theorem warm31 : (PySem.Challenge.rw_ar0037_04 = PySem.Challenge.rw_ar0037_04) ∧ (∀ P, Kc P = Kc P) := by
  k_fill
  exact ⟨rfl, fun _ => rfl⟩

theorem permV {a b c : Addr × Obj} {l : List (Addr × Obj)} : ∀ p ∈ c :: a :: b :: l, p ∈ a :: b :: c :: l := fun p hp => by
  simp only [List.mem_cons] at hp ⊢
  rcases hp with h | h | h | h <;> simp [h]
theorem news_dedup {h₀ h : Heap} {L : Addr} : ∀ {l : List (Addr × Obj)}, News h₀ L h l → ∃ l' : List (Addr × Obj), (l'.map (·.1)).Nodup ∧ (∀ p ∈ l, p ∈ l') ∧ ∀ p ∈ l', p ∈ l := by
  intro l
  induction l with
  | nil => exact fun _ => ⟨[], List.nodup_nil, fun _ h => h, fun _ h => h⟩
  | cons p l ih =>
    intro N
    obtain ⟨l', h1, h2, h3⟩ := ih fun q hq => N q (.tail _ hq)
    by_cases hp : p.1 ∈ l'.map (·.1)
    · obtain ⟨q, hq, e⟩ := List.mem_map.mp hp
      have e2 : q = p := by
        have a1 := (N q (.tail _ (h3 q hq))).1
        have a2 := (N p (.head _)).1
        rw [e, a2] at a1
        obtain ⟨qa, qo⟩ := q
        obtain ⟨pa, po⟩ := p
        simp only at e a1
        rw [e, Option.some.inj a1]
      refine ⟨l', h1, fun r hr => ?_, fun r hr => .tail _ (h3 r hr)⟩
      rcases List.mem_cons.mp hr with rfl | hr
      · exact e2 ▸ hq
      · exact h2 r hr
    · refine ⟨p :: l', ?_, fun r hr => ?_, fun r hr => ?_⟩
      · rw [List.map_cons]
        exact List.nodup_cons.mpr ⟨hp, h1⟩
      · rcases List.mem_cons.mp hr with rfl | hr
        · exact .head _
        · exact .tail _ (h2 r hr)
      · rcases List.mem_cons.mp hr with rfl | hr
        · exact .head _
        · exact .tail _ (h3 r hr)

theorem law_body {prog : Program} {w : World} {mean : ExcName → Option Value} {mg mb : Str → Option Value}
  {dp un : Nat} {gd : Option (List Code)} {cA sc : Addr} {outer : List Env} {A₀ : Around} {h₀ : Heap} {L : Addr} {m : Str → Option Value} {s : Shared} {Q : Flow → Shared → Prop} {E : Value → Shared → Prop} {cO : Obj} {v₀ : Option Value} {vs : List Value} {ns : List Int} {p : Program} {loose : List Str}
  (B : Below A₀ h₀ outer h₀) (F : Fr h₀ L s.heap m) (X : (Kc w.params).In h₀) (N : News h₀ L s.heap [(cA, cO)]) (T : Top p loose mean mg mb h₀) (hcO : cO.data = .cell v₀) (hm : m (Str.ofString "script") = some (.ref sc)) (hl : h₀.IsList sc vs.toArray) (hi : IntsAre vs ns) (hn : ns.length ≤ 63)
  (hd : dp ≤ 350) (hu : un ≤ 330) (hA : A₀.deeper (envX (Str.ofString "law") s702.1 L 702 (.ref 701) [(Str.ofString "number", cA)]) = (ktrTop dp un gd (Str.ofString "law") s702.1 L 702 (.ref 701) [(Str.ofString "number", cA)] outer))
  (g1 : ("EOFError" : Str) ∉ loose) (g2 : ("EOFError" : Str) ∉ (recsOf p).map (·.name)) (g3 : ("EOFError" : Str) ∉ (litsOf p).map (·.1)) (g4 : ("EOFError" : Str) ∉ (clssOf p loose).map (·.name))
  (ret : ∀ h' tk' gg m', (AllBare s.gens → AllBare gg) → Fr h₀ L h' m' → Q (.ret (.bool true)) { s with heap := h', toks := tk', gens := gg }) :
  wpH (model prog w) (ktrTop dp un gd (Str.ofString "law") s702.1 L 702 (.ref 701) [(Str.ofString "number", cA)] outer) (execs b702.1 (envX (Str.ofString "law") s702.1 L 702 (.ref 701) [(Str.ofString "number", cA)])) Q E s := by
  rw [lawFor.2]
  refine execsH_next (s0_spec (Q := fun _ _ => True) B F X N T hd hu ?_)
  intro h1 tk1 fl c F1 N1 l1 l2 l3
  dsimp only
  have hcA1 : @LT.lt Nat _ cA c := l1 _ (.head _)
  have hcA2 : @LT.lt Nat _ cA fl := l3 _ (.head _)
  have hcfl : @LT.lt Nat _ c fl := l2
  refine execsH_cons (build_for (Q := fun _ _ => True) (sc := sc) (fl := fl) (c := c) (nf := 0) (n := 0) (rest := []) B F1 X (news_sub N1 permV) T hcO (by show (if Str.ofString "script" = Str.ofString "files" then _ else _) = _; rw [if_neg (by decide)]; exact hm) rfl hl hi hn hd hu (Nat.ne_of_lt hcA2) (Ne.symm (Nat.ne_of_lt hcA1)) (Nat.ne_of_lt hcfl) (fun p hp => absurd hp List.not_mem_nil) ?_)
  intro h2 tk2 m2 cO2 v2 fv nf others fss hf2 hcO2 F2 N2 hfs hgood hlen hoth
  rw [List.append_nil] at N2
  dsimp only
  obtain ⟨rest, nd, sub1, sub2⟩ := news_dedup N2
  have N2' : News h₀ L h2 rest := fun p hp => N2 p (sub2 p hp)
  refine execsH_next (s2_spec (Q := fun _ _ => True) B F2 X N2' T hd hu ?_)
  intro h3 tk3 x dx t3 tkO F3 N3 lx1 lx2
  dsimp only
  have nd3 : (x :: dx :: rest.map (·.1)).Nodup := by
    have q1 : ∀ a ∈ rest.map (·.1), @LT.lt Nat _ a dx := fun a ha => by
      obtain ⟨p, hp, rfl⟩ := List.mem_map.mp ha
      exact lx1 p hp
    have q2 : @LT.lt Nat _ dx x := lx2
    simp only [List.nodup_cons, List.mem_cons, not_or]
    exact ⟨⟨Ne.symm (Nat.ne_of_lt q2), fun hm => Nat.lt_irrefl _ (Nat.lt_trans (q1 _ hm) q2)⟩, fun hm => Nat.lt_irrefl _ (q1 _ hm), nd⟩
  refine execsH_next (s3_spec (Q := fun _ _ => True) B F3 X N3 T hd hu ?_)
  intro h4 tk4 td F4 N4
  dsimp only
  have hmf : (fl, lstObj fv nf) ∈ rest := sub1 _ (.tail _ (.head _))
  have hfs2 : All2 (FileAt rest) fv fss := hfs.imp fun _ _ h => h.sub fun p hp => sub1 p (.tail _ (.tail _ hp))
  have hgood2 : ∀ ks ∈ fss, GoodF ks := hgood
  refine execsH_cons (write_for (Q := fun _ _ => True) (fl := fl) (td := td) B F4 X N4 T (by show (if Str.ofString "stream" = Str.ofString "due" then _ else if Str.ofString "stream" = Str.ofString "stream" then _ else _) = _; rw [if_neg (by decide), if_pos rfl]) (by show (if Str.ofString "files" = Str.ofString "due" then _ else if Str.ofString "files" = Str.ofString "stream" then _ else _) = _; rw [if_neg (by decide), if_neg (by decide)]; exact hf2) rfl nd3 hd hu hmf hfs2 hgood2 hlen ?_)
  intro h5 tk5 m5 t5 td5 e1 e2 e3 F5 N5
  dsimp only
  have hz := filesB_le hgood2
  have nd4 := nd3
  simp only [List.nodup_cons, List.mem_cons, not_or] at nd4
  refine execsH_next (s5_spec (Q := fun _ _ => True) B F5 X N5 T e2 e1 nd4.1.1 (offs nd4.1.2 nd4.2.1) hd hu ?_)
  intro h6 tk6 F6 N6
  dsimp only
  refine execsH_cons (law_for (Q := fun _ _ => True) (fl := fl) B F6 X N6 T e2 e3 nd3 hd hu hmf hfs2 (fun ks hk => ⟨(hgood2 ks hk).1, by have := (hgood2 ks hk).2; omega⟩) (by omega) ?_)
  intro h7 tk7 gg t7 m7 hb em F7 N7
  dsimp only
  refine execsH_next (law_try B F7 X N7 T em nd3 hd hu hA g1 g2 g3 g4 ?_)
  intro h8 tk8 F8
  exact ret h8 tk8 gg m7 hb F8
end Mine
end
-- E1
section
open PySem PySem.W PySem.W.X PyProof.Rows PySem.Calls PySem.Spec
set_option Elab.async false
set_option maxRecDepth 100000
set_option maxHeartbeats 4000000
namespace Mine
theorem law_at {P : Params} : (Kc P).lookup 702 = some (o702 P) := rfl
theorem law_code {P : Params} : codeIn (Kc P) (.ref 701) (Str.ofString "law") = true := by kernel_rfl
theorem law_names {n : Nat} : cellsFrom n s702.1.names [] = [(Str.ofString "number", n)] := rfl
theorem law_entry {prog : Program} {w : World} {mean : ExcName → Option Value} {mg mb : Str → Option Value} {sc : Addr} {s : Shared} {vs : List Value} {ns : List Int} {p : Program} {loose : List Str} {R : Result → Shared → Prop}
    (X : (Kc w.params).In s.heap) (T : Top p loose mean mg mb s.heap) (hl : s.heap.IsList sc vs.toArray) (hi : IntsAre vs ns) (hn : ns.length ≤ 63)
    (g1 : ("EOFError" : Str) ∉ loose) (g2 : ("EOFError" : Str) ∉ (recsOf p).map (·.name)) (g3 : ("EOFError" : Str) ∉ (litsOf p).map (·.1)) (g4 : ("EOFError" : Str) ∉ (clssOf p loose).map (·.name))
    (ret : ∀ h' tk' gg, (AllBare s.gens → AllBare gg) → (∀ b o, s.heap.get? b = some o → h'.get? b = some o) → R (.ok (.ret (.bool true))) { s with heap := h', toks := tk', gens := gg }) :
    codeH (model prog w) callerA (.call (.ref 702) ⟨[.ref sc], []⟩) R s := by
  refine codeH_call_function (body := b702.1) (by decide) (X _ _ law_at) rfl rfl rfl rfl (codeRec_of X law_code) ?_
  refine (BindsTo.of_eq (binds := [(Str.ofString "script", .ref sc)]) rfl : BindsTo s _ _ _) _ _ _ _ ?_
  refine wpAny_newFunctionEnv_cells rfl (kindsX (by rfl) _) fun env' he s' x => ?_
  subst he
  refine ⟨T.nolimit.keeps x.toInCall.keep, codeH_func ?_⟩
  obtain ⟨h₁, tk, rfl, _⟩ := x.done
  have hk₁ := x.toInCall.keep
  obtain ⟨cells, NC, Y⟩ := Cl.news (h₀ := s.heap) (Nat.le_refl _) fun n c hm => ⟨x.cell n c (lookup_of_mem_nodup (cellsFrom_names s702.1.names 0 (s.heap.objs.size + 1) [] [] rfl ▸ (by decide)) hm), x.above n c hm⟩
  obtain ⟨cO, rfl, hcO⟩ := CellsAre.one (n := Str.ofString "number") (c := s.heap.objs.size + 1) Y
  exact law_body (A₀ := callerA) (outer := []) (below_caller _) ⟨x.toInCall.ns, hk₁, Nat.le_refl _⟩ X NC T hcO rfl hl hi hn (by decide) (by decide) rfl g1 g2 g3 g4
    (fun h' tk' gg m' hb F' => ret h' tk' gg hb F'.keep)
end Mine
end
-- HO
section
open PySem PySem.W PyProof.Rows PySem.Calls PySem.Spec
set_option Elab.async false
set_option maxRecDepth 100000
set_option maxHeartbeats 4000000
namespace Mine
/-- the caller of a claim: no built-in that holds a bytearray stands below it -/
noncomputable def callerC : PySem.Ctx := ⟨.builtin "claim.caller" {}, none, none, [], none⟩
/-- a walk over the stacks without a holder ends, in the one thread and under the scheduler -/
theorem ends_H {prog : Program} {w : World} {t : Sem Fin} {s : Shared} {G : Result → Shared → Prop} (hz : s.asleep) (hG : ∀ r s', G r s' → AllBare s'.gens)
    (h : wpH (model prog w) callerA t (fun fin s' => ∃ f, fin = .done f ∧ G (.ok f) s') (fun e s' => G (.error e) s') s) :
    ∃ k r s' s'', runN (denote table) prog w k s ⟨t, .builtin "claim.caller" {}, default, []⟩ = .halted (outcomeOf r) s' ∧
      schedN (denote table) prog w k (.single s ⟨t, .builtin "claim.caller" {}, default, []⟩) = .halted (outcomeOf r) s' ∧ s'.forget = s''.forget ∧ G r s'' := by
  have two : ∀ r s', G r s' → G r s' ∧ leftWithCleanup s'.gens = false := fun r s' g => ⟨g, leftWithCleanup_false_of_bare (hG r s' g)⟩
  have end1 : ∀ (fin : Fin) (p : Pos) (s' : Shared), (∃ f, fin = .done f ∧ G (.ok f) s') → Sem.finPost (model prog w) callerC (fun r s' => G r s' ∧ leftWithCleanup s'.gens = false) fin p s' := by
    rintro fin p s' ⟨f, rfl, g⟩
    exact two _ _ g
  have go := Sem.wp_mono (model prog w) callerC t (fun fin p s' g => end1 fin p s' g) (fun e _ s' g => two (.error e) s' g) default s
    (h callerC default caller_in rfl (by intro x hx; cases hx))
  obtain ⟨k, r, s₂, s₃, e1, e2, e3, e4⟩ := wp_halts_full hz go
  exact ⟨k, r, s₃, s₂, e2, e1, e3, e4⟩
/-- what the walk owes the head: the called name stands, and its call ends well -/
noncomputable def CallH (q : Program) (loose : List Str) (XP : (Str → Option Value) → Heap → Prop) (YP : World → Heap → Prop) (r : OpenRow) : Prop :=
  ∀ (w : World) (s₀ s₁ : Shared) (mg mb : Str → Option Value), Ground q loose r.records XP w s₀ mg mb s₁.heap → YP w s₁.heap → s₁.gens = #[] →
    ∀ (args : List WData) (vs : List Value) (as : List Addr), r.claim.pre args = true → WData.layableAll args = true → ReadsAllW r.records (classAt s₀.heap) s₁.heap vs args as →
      ∃ f, mg r.name = some f ∧ wpH (model r.prog w) callerA (PySem.call f vs) (fun v s' => GoodWG r.claim (classAt s₀.heap) (ExcName.means s₀.heap) args s₁ (.ok (.ret v)) s')
        (fun e s' => GoodWG r.claim (classAt s₀.heap) (ExcName.means s₀.heap) args s₁ (.error e) s') s₁
/-- the head over the stacks without a holder -/
theorem holds_openH {r : OpenRow} {q : Program} {loose : List Str} {Xt : Shared → Bool} {XP : (Str → Option Value) → Heap → Prop} {α : Type} {Yf : Shared → α} {Ya : World → α} {YP : World → Heap → Prop} {d : DefRec} {kwd : List (Str × Expr)} {N : Nat}
    (left : LeftO r.prog q loose Xt Yf Ya N) (hY : ∀ w s, Yf s = Ya w → YP w s.heap) (hYk : ∀ w h h', YP w h → (∀ b o, h.get? b = some o → h'.get? b = some o) → YP w h')
    (hX : ∀ s, Xt s = true → XP (s.heap.nsMap mainGlobals) s.heap) (hXk : ∀ mg h h', XP mg h → (∀ b o, h.get? b = some o → h'.get? b = some o) → XP mg h')
    (hdef : defOf q r.name = some (d, kwd)) (hp : r.prog.theDef r.name = some (d.params, d.body, d.scope)) (hk : kwWritten? d.params.kwonlyargs d.params.kw_defaults = some kwd)
    (hRf : ∀ s, Xt s = true → RecFacts r.records s.heap) (hwr : (!r.writes || r.records.isEmpty) = true)
    (k1 : r.wellSaid = true) (ok : (chainsOk q && opensWell r.prog && (frees r.toRowW && r.within.isEmpty)) = true) (hb : r.prog.bare) (hw : r.toRowW.promised)
    (call : CallH q loose XP YP r) : r.Holds := by
  rw [Bool.and_eq_true, Bool.and_eq_true, Bool.and_eq_true] at ok
  obtain ⟨⟨hch, hop⟩, hfr, hin0⟩ := ok
  obtain ⟨hsame, hun, hal0, hap, hmk⟩ := frees_parts hfr
  have hid := ident_freeW hun hal0 hap
  have hwi : r.claim.within = [] := List.isEmpty_iff.mp hin0
  refine ⟨k1, hw, ⟨hb, hop, by show r.makers.map _ = []; rw [hmk]; rfl⟩, hw.witness, fun w => ⟨(left.behind hX hch w).1, fun s' hs' => ?_⟩⟩
  -- the state behind the top
  obtain ⟨sI, hfI, hgI, s, hT, hz, hge, hg, GR, hy⟩ := (left.behind (XP := fun mg h => XP mg h ∧ RecFacts r.records h) (fun s hs => ⟨hX s hs, hRf s hs⟩) hch w).2 s' hs'
  have G₀ : Ground q loose [] XP w s (s.heap.nsMap mainGlobals) (s.heap.nsMap builtinsNs) s.heap := { GR with X := GR.X.1 }
  have RF : RecFacts r.records s.heap := GR.X.2
  have hge : s.gens = #[] := Array.eq_empty_of_size_eq_zero (beq_iff_eq.mp hge)
  refine ⟨sI, hfI, hgI, s, hT, fun n hn => ?_, RF.1, RF.2.1, fun args hpre hlay ord hord => ?_⟩
  · have e : n = r.name := by split at hn <;> simp_all
    exact e ▸ pinned_of_view hg G₀ hdef hp hk
  -- the arguments are laid
  have G : Ground q loose r.records XP w s _ _ s.heap := RF.ground G₀
  obtain ⟨⟨vs, s₁⟩, hlaid⟩ := Option.isSome_iff_exists.mp (layAllW_isSome (P := w.params) (ord := ord) G.has args r.args s (pre_splitW hpre).1)
  have keeps := layAllW_keeps _ _ _ hlaid
  obtain ⟨l1, l2, l3, l4⟩ := layAllW_rest _ _ _ hlaid
  obtain ⟨as, hrd, hin, hold⟩ := reads_layAllW hord _ _ _ hlaid hlay s₁.heap (fun _ _ e => e)
  have LA : Laid r.records w s s₁ args vs as := ⟨⟨ord, hord, hlaid⟩, hrd, hin, hold, keeps, l1.trans hge, l3⟩
  have G₁ := G.keeps hXk keeps
  obtain ⟨f, hf, h⟩ := call w s s₁ _ _ G₁ (hYk _ _ _ (hY w s hy) keeps) LA.gens args vs as hpre hlay hrd
  -- the call, and its end
  have good : ∀ res s₂, GoodWG r.claim (classAt s.heap) (ExcName.means s.heap) args s₁ res s₂ →
      r.claim.Ends s args vs s₁ res s₂ ∧ s₂.os = s.os ∧ AllBare s₂.gens ∧ (r.writes = true → namesKept r.prog r.keeps s.heap s₂.heap ∧ ∀ x ∈ r.records, ∀ a, classAt s.heap x.1 = some a → recordClass s₂.heap a x.1 (x.2.map (·.1)) = true) := fun res s₂ g =>
    have z := g.laid (c := r.claim) hsame hwi hid LA
    ⟨z.1, z.2.1, z.2.2, fun hq => ⟨namesKept_of hT hg r.keeps keeps g.2.1.old, noTable hwr hq⟩⟩
  obtain ⟨k, res, sE, sF, e1, e2, e3, g1, g2, g3, g4⟩ := ends_H (prog := r.prog) (w := w) (s := s₁)
    (t := do match ← nsGet mainNs r.name with
      | some f => do ret (← PySem.call f vs)
      | none => unsupported "claim.caller:no-such-global")
    (G := fun res s₂ => r.claim.Ends s args vs s₁ res s₂ ∧ s₂.os = s.os ∧ AllBare s₂.gens ∧ (r.writes = true → namesKept r.prog r.keeps s.heap s₂.heap ∧ ∀ x ∈ r.records, ∀ a, classAt s.heap x.1 = some a → recordClass s₂.heap a x.1 (x.2.map (·.1)) = true))
    (Shared.asleep_of_life l4 hz) (fun _ _ g => g.2.2.1) (wpH_bind (.of_any (wpAny_nsGet G₁.T.g (by
      rw [hf]
      exact wpH_bind (wpH_mono h (fun v s₂ g => wpH_pure ⟨_, rfl, good _ _ g⟩) fun e s₂ g => good _ _ g)))))
  obtain ⟨eh, _, _, eo, _⟩ := Shared.forget_eq e3
  refine ⟨vs, s₁, hlaid, k, _, sE, e2, ?_, (fun _ i x hx => by rw [hge] at hx; simp at hx), by rw [eh]; exact g4, by rw [(runN_life _ _ _ e1).trans l4], Shared.rest_eq (eo.trans g2)⟩
  rcases g1.congr eh with ⟨v, rfl, x1, x2, x3, x4, x5⟩ | ⟨e, ob, cls, rfl, x1, x2, x3, x4, x5⟩
  · exact .inl ⟨v, rfl, x1, x2, x3, fun b o y _ => x4 b o y, x5⟩
  · exact .inr ⟨e, ob, cls, rfl, x1, x2, x3, x4, fun b o y _ => x5 b o y⟩
end Mine
end
-- FN
section
open PySem PySem.W PyProof.Rows PySem.Calls PySem.Spec
set_option Elab.async false
set_option maxRecDepth 100000
set_option maxHeartbeats 4000000
namespace Mine
/-- a list whose items have the shape of an int reads as ints -/
theorem ints_read {R : WRecords} {cl : Str → Option Addr} {h : Heap} : ∀ {vs : List Value} {xs : List WData} {as : List Addr}, ReadsAllW R cl h vs xs as → WShape.hasItems R xs .int = true → ∃ ns : List Int, IntsAre vs ns ∧ xs = ns.map .int := by
  intro vs
  induction vs with
  | nil => intro xs as hr _; cases hr; exact ⟨[], .nil, rfl⟩
  | cons v vs ih =>
    intro xs as hr hs
    cases hr with
    | @cons _ _ d ds as bs hd hr =>
      rw [WShape.hasItems, Bool.and_eq_true] at hs
      obtain ⟨i, rfl⟩ := hasW_int hs.1
      obtain ⟨t, rfl, _⟩ := readsW_int_inv hd
      obtain ⟨ns, hi, rfl⟩ := ih hr hs.2
      exact ⟨i :: ns, .cons i t hi, rfl⟩
theorem law_call {l : OpenLaw} {q : Program} {loose : List Str} {XP : (Str → Option Value) → Heap → Prop} {YP : World → Heap → Prop} (hn : l.name = Str.ofString "law") (hm : l.most = some 63) (hb : l.bound = none)
    (hY : ∀ w h, YP w h → (Kc w.params).In h)
    (g1 : ("EOFError" : Str) ∉ looseW q loose) (g2 : ("EOFError" : Str) ∉ (recsOf q).map (·.name)) (g3 : ("EOFError" : Str) ∉ (litsOf q).map (·.1)) (g4 : ("EOFError" : Str) ∉ (clssOf q (looseW q loose)).map (·.name)) :
    CallH q loose XP YP l.row := by
  intro w s₀ s₁ mg mb G Y hge args vs as hpre hlay hrd
  have X := hY w _ Y
  have sp := pre_splitW hpre
  obtain ⟨d, r, rfl, hd, hr⟩ := hasAllW_cons sp.1
  obtain rfl := hasAllW_nil hr
  obtain ⟨xs, rfl, hx⟩ := hasW_list hd
  obtain ⟨v, _, a1, a2, rfl, rfl, rv, rn⟩ := readsAllW_cons_inv hrd
  obtain ⟨rfl, rfl⟩ := readsAllW_nil_inv rn
  obtain ⟨sc, its, as', rfl, hl, ri, rfl⟩ := readsW_list_inv rv
  obtain ⟨ns, hi, rfl⟩ := ints_read ri hx
  have hlen : ns.length ≤ 63 := by
    have c := (holds_andW (show (l.pre).holds _ _ = true from sp.2)).1
    rw [hm] at c
    have c2 := condW_of c (by wtm_val)
    rw [List.length_map, Bool.not_eq_true', decide_eq_false_iff_not] at c2
    omega
  refine ⟨.ref 702, mg_of X G.T.g (by show nsIn (Kc w.params) mainGlobals l.name = _; rw [hn]; kernel_rfl), wpH_call (codeH_mono (law_entry (R := fun res s' => res = .ok (.ret (.bool true)) ∧ OldK s₁.heap s'.heap ∧ s'.os = s₁.os ∧ AllBare s'.gens) X G.T (vs := its.toList) hl hi hlen g1 g2 g3 g4 fun h' tk' gg hb k => ⟨rfl, .of_keep k, rfl, hb (.of_eq hge)⟩) ?_)⟩
  rintro r s' ⟨rfl, h1, h2, h3⟩
  refine ⟨.inl ⟨.bool true, .bool true, [], rfl, ?_, .bool _, ?_, unshared_nil⟩, h1, h2, h3⟩
  · exact fun cls => raisesW_false (r := l.row.toRowW) (by exact fun _ h => nomatch h) cls
  · exact postW_of (r := l.row.toRowW) (by rfl) (show WTm.value [] (.eq .res (.lit (.bool true))) _ = _ by wtm_val) (by w_fin)
end Mine
end
-- HH
section
open PySem PySem.W PyProof.Rows PySem.Calls PySem.Spec
set_option Elab.async false
set_option maxRecDepth 100000
set_option maxHeartbeats 0
namespace Mine
open St
theorem law_holds : PySem.Challenge.rw_ar0037_04.Holds := by
  refine holds_law said fun k1 => ?_
  refine holds_openH (r := PySem.Challenge.rw_ar0037_04.row) (q := qL) (loose := looseL) (Xt := fun _ => true) (XP := fun _ _ => True) left_law (kHook Kc Ka hookE).of (kHook Kc Ka hookE).keeps (fun _ _ => trivial) (fun _ _ _ _ _ => trivial)
    (by rfl) (by rfl) (by rfl) (fun s _ => recFacts_nil rfl) (by rfl) k1 (by decide +kernel) ⟨rfl, rfl, rfl, rfl, rfl, by decide +kernel⟩ ?hw (law_call rfl rfl rfl (fun _ _ Y => kIn_of Y) (by decide +kernel) (by decide +kernel) (by decide +kernel) (by decide +kernel))
  case hw => w_witness2
end Mine
end
theorem PySem.Challenge.cw_ar0037_04_holds : PySem.Challenge.rw_ar0037_04.Holds := by
  exact Mine.law_holds
